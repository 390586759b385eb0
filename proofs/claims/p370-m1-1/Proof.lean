import JvmDerived
import JvmDerived.Pilot.@@N@@Statement
import JvmDerived.Pilot.@@N@@Code
set_option linter.unusedVariables false
set_option linter.unusedSimpArgs false
@@BLOCK:HandJ.lean.txt@@
@@BLOCK:SymMore.lean.txt@@
namespace Jvm.RoadKit
open Sem ClassFile Op Lib Jvm.Stand Jvm.Free Jvm.LawKit
section New
variable {p : Program} {l : Launch} {e : Env} {R : Room} {s : State} {m : MethodId} {args : Array Value} {below : List Frame} {meth : Method} {c : Code} {T : State} {locs : List Loc} {cells slots : Nat}
theorem retI (X : Stand p l e R s m args below meth c T locs cells slots) (hx : p.tables.exec = Jvm.exec) {pc : Nat} {Ls : Array Slot} {z : Int32} {rest : List Value} (hret : meth.sig.returnType = some .int) (hd : decode c.code pc = .ok (.ireturn, 1)) {fs : List Frame}
    (hl : ∀ (f : JFrame) (acts : List Action), f.method = m → f.locked = none → f.entered = [] → (doReturn e (T.setTop f) acts (some (.int z))).1 = T.setFrames fs) : Steps p.tables e below (T.setTop (mkF m pc Ls (.int z :: rest))) (T.setFrames fs) := by
  have hm' : T.vm.method? m = some meth := X.method'
  have hn : narrow .int (.int z) = .int z := rfl
  show Steps p.tables e below (T.setTop { method := m, pc := pc, locals := Ls, stack := _ :: rest, locked := none }) _
  jvm_step X.here [X.here.top, hx, hd, hm', hret, hn]
  first | (intro acts; rw [hl _ acts rfl rfl rfl]) | rw [hl _ _ rfl rfl rfl]
  exact Steps.refl _
end New
end Jvm.RoadKit
namespace Jvm.RoadKit
open Sem ClassFile Op Lib Jvm.Stand Jvm.Free Jvm.LawKit
theorem own_mvR {Z s : State} {a0 args : Array Value} {own : String} {idx : Nat} {y : MethodName} (hZ : Z.Warmed39 s.vm) (wi : (Cond.instanceMethod y).before a0 Z = true) (hx : y.cls ≠ "java/lang/invoke/MethodHandle" ∧ y.cls ≠ "java/lang/invoke/VarHandle") (h : (Cond.methodRef own idx y).before a0 Z = true) : (Cond.methodRef own idx y).before args s = true := by
  obtain ⟨m, _, hn, -⟩ := Cond.instanceMethod_spec wi
  have h1 : (Cond.methodRef own idx y).before a0 (Z.setVm s.vm) = true := Cond.methodRef_warmed39 hZ hn hx h
  exact h1
section NewRef
variable {p : Program} {l : Launch} {e : Env} {R : Room} {s : State} {m : MethodId} {args : Array Value} {below : List Frame} {meth : Method} {c : Code} {T : State} {locs : List Loc} {cells slots : Nat}
/-- a constructor called through an entry that has been resolved ('methodRef') -/
theorem own_specialRef (X : Stand p l e R s m args below meth c T locs cells slots) (hexec : p.tables.exec = Jvm.exec) {own : String} {index : Nat} {y : MethodName} (hy1 : y.name = "<init>")
    (hown : s.vm.findClass own = some m.cls) (hlink : (Cond.methodRef own index y).before args s = true) (hinst : (Cond.instanceMethod y).before args s = true)
    {bytes : ByteArray} {maxL : Nat} (hcode : (Cond.code y bytes maxL none).before args s = true)
    (hy : y.cls ≠ "java/lang/invoke/MethodHandle" ∧ y.cls ≠ "java/lang/invoke/VarHandle")
    {W : Nat} {Pre : Pt → Array Value → Prop} {Post : Pt → Array Value → Option Value → Pt → Prop} (hK : Back l R p e below s args y 3 W Pre Post)
    {g : JFrame} (hg : g.method = m) (hsize : g.locals.size = c.maxLocals) {s₀ : State} (hcome : Steps p.tables e below s₀ (T.setTop g)) {a : Addr} {argsL rest : List Value}
    (hlen : ∀ sig, parseMethodDescriptor y.desc = some sig → argsL.length = sig.parameters.length) (hstack : g.stack = argsL.reverse ++ .ref a :: rest) (hW : 2 * g.monitorRoom + (rest.map fun v => v.category).sum ≤ W)
    (hdg : decode c.code g.pc = .ok (.invokespecial index, 3)) (hpre : ∀ vm₁, s.WarmedH vm₁ → Pre ⟨T.setVm vm₁, locs, cells, slots⟩ (.ref a :: argsL).toArray) :
    ∃ (v : Option Value) (vm₁ : Vm) (B : Pt), s.WarmedH vm₁ ∧ Stand p l e R s m args below meth c B.U B.locs B.cells B.slots ∧ Post ⟨T.setVm vm₁, locs, cells, slots⟩ (.ref a :: argsL).toArray v B ∧
      Steps p.tables e below s₀ (B.U.setTop { g with pc := g.pc + 3, stack := v.toList ++ rest }) := by
  have hWT := X.warmed
  obtain ⟨obj, methO, hnO, hmO, hstO, habO⟩ := Cond.instanceMethod_spec hinst
  obtain ⟨methO', cO, hmO', hcO, hbO, hlO, -, hlockO, -, hsigO⟩ := Cond.code_spec hnO hcode
  cases hmO.symm.trans hmO'
  obtain ⟨kO, hkO, hnameO⟩ := className_of_methodNamed hnO
  obtain ⟨hnameMO, hdescO⟩ := name_of_methodNamed hnO hmO
  have hlT : (Cond.methodRef own index y).before args (s.setVm T.vm) = true := Cond.methodRef_warmed hWT hnO hy hlink
  have hownT : (s.setVm T.vm).vm.findClass own = some m.cls := by show T.vm.findClass own = _; rw [hWT.alike.findClass]; exact hown
  obtain ⟨m', c', ci, b, hfd, hready, hfc, hask, hcready⟩ := Cond.methodRef_spec (e := e) (s := s.setVm T.vm) hownT hlT
  have hfd0 : s.methodFound? y.cls y.name y.desc = some obj := State.methodFound?_of_named hnO hy
  rw [State.methodFound?_setVm_of_named hWT.alike hnO hy, hfd0] at hfd
  cases hfd
  have hc' : c' = obj.cls := by
    have q : T.vm.findClass y.cls = some c' := hfc
    rw [hWT.alike.findClass] at q
    exact Option.some.inj (q.symm.trans (findClass_of_methodNamed hnO))
  subst hc'
  have hnames : namesResolved T.vm m.cls index obj.cls := by
    have hl2 := hlT
    have hfdT : (s.setVm T.vm).methodFound? y.cls y.name y.desc = some obj := by rw [State.methodFound?_setVm_of_named hWT.alike hnO hy]; exact hfd0
    simp only [Cond.before, Cond.holds, Cond.value, hownT, hfdT, beq_iff_eq, Option.some.injEq, Bool.and_eq_true, decide_eq_true_eq] at hl2
    obtain ⟨⟨hnm, -⟩, -⟩ := hl2
    obtain ⟨cp, hcp, hn⟩ := State.names_spec hnm
    obtain ⟨ci2, nt, hentry, hnt, -⟩ := namesOf?_method hn
    obtain ⟨k, cf, hk, hcf, rfl⟩ := State.poolOf?_spec hownT hcp
    obtain ⟨b2, hask2⟩ := memberRef_ask' (e := e) hk hcf hentry hnt
    have q := hask2.symm.trans hask
    simp only [Except.ok.injEq, Prod.mk.injEq] at q
    exact ⟨k, cf, ci2, nt, hk, hcf, hentry, q.1 ▸ hcready⟩
  obtain ⟨kT, hkT, ekT⟩ := hWT.alike.2.2 _ _ hkO
  have hmT : T.vm.method? obj = some methO := by rw [hWT.alike.method?]; exact hmO
  have hfound : lookupSpecial T.vm obj.cls "<init>" methO.desc = .method obj := by
    rw [hWT.alike.lookupSpecial, hdescO, ← hy1]; exact lookupSpecial_of_named hnO hmO hstO
  have hstep : ∀ target, (∀ acts, Steps p.tables e below (doInvoke e (T.setTop { g with stack := rest }) acts obj (.ref a :: argsL).toArray).1 target) → Steps p.tables e below (T.setTop g) target := by
    intro target hrest
    subst hg
    jvm_step X.here [hexec, hdg, invokespecial.wp_init (e := e) (s := T) (k := kT) (meth := methO) (m := obj) (a := a) (args := argsL) (rest := rest) (f := g)
      X.here.top hnames hready hkT hmT (by rw [hnameMO]; exact hy1) hstO habO hfound (hlen _ hsigO) hstack]
    exact hrest
  obtain ⟨v, B, X', hpost, hsteps⟩ := hK m meth c ⟨T.setVm T.vm, locs, cells, slots⟩ { g with stack := rest } (.invokespecial index) obj (.ref a :: argsL).toArray (X.noted hWT) hg hsize hdg hW ((X.noted hWT).named hnO) (hpre T.vm hWT)
  exact ⟨v, T.vm, B, hWT, X', hpost, (hcome.trans (hstep _ fun acts => by rw [doInvoke_state]; exact Steps.refl _)).trans hsteps⟩
end NewRef
end Jvm.RoadKit
namespace Jvm.Pilot.@@N@@
open Jvm Jvm.ClassFile Sem Op Lib Jvm.Free Jvm.Stand Jvm.LawKit Jvm.RoadKit Bundle Jvm.Pilot.@@N@@.Jvm.D
abbrev OM (l : Launch) (Z : State) (y : MethodName) (cd : ByteArray) (mL : Nat) (rt : Option FieldType) (ws : List Jvm.Cond) (rm : Room) (as' : Array Value) (h0 : Heap) (Q : Option Value → Heap → List Loc → Prop) : Prop :=
  MetFree l y (head1 (Jvm.Cond.code y cd mL rt :: ws) rm) (fun a U => a = as' ∧ Z.Warmed39 U.vm ∧ U.heap = h0) (fun _ _ _ _ _ => True) (fun _ U o U' => ∃ v L, o = .returned v ∧ Q v U'.heap L ∧ FrameEnd U o U' L rm.cells rm.slots)
/-- what a body that writes nothing leaves: its value, the heap as it was -/
def OP (r : Option Value) (n0 : Nat) (h0 : Heap) (v : Option Value) (h : Heap) (L : List Loc) : Prop := v = r ∧ Fr n0 L ∧ h = h0
theorem own_fld {s : State} {args : Array Value} {t : Term} {x : Addr} {C n d : String} {k : Int32} (ht : t.eval args s none [] s = some (.ref x)) (h : (Jvm.Cond.eq (.field t C n d) (.int k)).value args s none s [] = some true) : Fld s s.heap x C n d (.int k) := by
  obtain ⟨u, v, h1, h2, h3, h4⟩ := cmp_v (Or.inl h)
  have e2 : v = .int k := (Option.some.inj h2).symm
  subst e2
  obtain ⟨z, rfl⟩ := h4
  have e3 := gotT (Jvm.Cond.eq_ints h1 h2) h
  subst e3
  exact Fld.start (by rw [← fld_at ht]; exact h1)
/-- what a body leaves that speaks of its result alone -/
def OF (r : Option Value) (n0 : Nat) (v : Option Value) (h : Heap) (L : List Loc) : Prop := v = r ∧ Fr n0 L
abbrev osel (c : Bool) (a b : Int32) : Int32 := if c then a else b
def imax (a b : Int32) : Int32 := if a < b then b else a
theorem own_imax (a b : Int32) : imax (imax 0 a) b = imax 0 (imax a b) := by
  simp only [imax, Int32.lt_iff_toInt_lt]
  repeat' split
  all_goals (first | rfl | (exfalso; omega) | (apply Int32.toInt_inj.mp; omega))
theorem own_sta_keep {Z : State} {h h' : Heap} {C n d : String} {u : Value} {b : Addr} {k : ClassId} {ty : FieldType} {z : Int32} {vs : List Value} {dv : Value} (F : Sta Z h C n d u) (Kp : Keep h h' [b]) (A : Arv Z h b k ty z vs dv) : Sta Z h' C n d u := by
  obtain ⟨cf, i, kc, f, st, cell, h1, h2, h3, h4, h5, h6, h7⟩ := F
  obtain ⟨c, Ar, -⟩ := A
  have ne : st ≠ b := fun e => by
    subst e
    cases h5.symm.trans Ar.1
    rw [Ar.plain] at h6
    cases h6
  exact ⟨cf, i, kc, f, st, cell, h1, h2, h3, h4, Kp.2.1 st cell h5 (ninS ne nin0), h6, h7⟩
theorem own_arv {s : State} {args : Array Value} {t : Term} {x : Addr} {ty : FieldType} {dv : Value} (hf : Fit s) (ht : t.eval args s none [] s = some (.ref x)) (h1 : (Jvm.Cond.arrayOf t ty).value args s none s [] = some true) (h2 : (Jvm.Cond.eq (.length t) (.int 0)).value args s none s [] = some true) : ∃ k : ClassId, Arv s s.heap x k ty (0 : Int32) [] dv := by
  obtain ⟨c, A⟩ := Arr.start ht h1
  obtain ⟨u, v, e1, e2, k1, k2⟩ := cmp_v (Or.inl h2)
  have q2 : v = .int 0 := (Option.some.inj e2).symm
  subst q2
  obtain ⟨z, rfl⟩ := k2
  have q3 := gotT (Jvm.Cond.eq_ints e1 e2) h2
  subst q3
  have ha : s.arrayAt? x = some c := A.fin (Vm.Alike.refl _)
  have hl : c.slots.size < 2 ^ 31 ∧ c.slots.size.toInt32 = 0 := by
    simp only [Term.eval, ht, Option.bind_eq_bind, Option.bind_some, ha] at e1
    split at e1
    · rename_i q; exact ⟨q, by simpa using e1⟩
    · cases e1
  exact ⟨c.cls, Arv.start hf A hl.1 hl.2 (by decide) rfl trivial⟩
def Kon (Z : State) (h : Heap) (w : Nat → Addr) (κ : Nat → ClassId) : Prop :=
  (Sta Z h "com/example/tight_tree/tighttree/Block" "NO_INTS" "[I" (.ref (w 0))) ∧
  (Sta Z h "com/example/tight_tree/tighttree/Block" "NO_BLOCKS" "[Lcom/example/tight_tree/tighttree/Block;" (.ref (w 1))) ∧
  (Exa Z h (w 0) "[I") ∧
  (Arv Z h (w 0) (κ 0) .int (0 : Int32) [] (.int (0 : Int32))) ∧
  (Arv Z h (w 1) (κ 1) (.object "com/example/tight_tree/tighttree/Block") (0 : Int32) [] .null)
theorem Kon.ext {Z : State} {h h' : Heap} {w : Nat → Addr} {κ : Nat → ClassId} (K : Kon Z h w κ) (E : Ext h h') : Kon Z h' w κ := ⟨K.1.ext E, K.2.1.ext E, K.2.2.1.ext E, K.2.2.2.1.ext E, K.2.2.2.2.ext E⟩
theorem Kon.wr {Z : State} {h h' : Heap} {w : Nat → Addr} {κ : Nat → ClassId} (K : Kon Z h w κ) {a : Addr} {sl : Nat} {v : Value} (W : Wr h h' a sl v) (q : ∀ i, i < 2 → w i ≠ a) : Kon Z h' w κ := ⟨K.1.wr W, K.2.1.wr W, K.2.2.1.wr W, K.2.2.2.1.other W (q 0 (by decide)), K.2.2.2.2.other W (q 1 (by decide))⟩
theorem Kon.keep {Z : State} {h h' : Heap} {w : Nat → Addr} {κ : Nat → ClassId} (K : Kon Z h w κ) {b : Addr} {k : ClassId} {ty : FieldType} {z : Int32} {vs : List Value} {dv : Value} (Kp : Keep h h' [b]) (A : Arv Z h b k ty z vs dv) (q : ∀ i, i < 2 → w i ≠ b) : Kon Z h' w κ := ⟨own_sta_keep K.1 Kp A, own_sta_keep K.2.1 Kp A, K.2.2.1.keep Kp, K.2.2.2.1.keep Kp (ninS (q 0 (by decide)) nin0), K.2.2.2.2.keep Kp (ninS (q 1 (by decide)) nin0)⟩
theorem Kon.lt {Z : State} {h : Heap} {w : Nat → Addr} {κ : Nat → ClassId} (K : Kon Z h w κ) : ∀ i, i < 2 → w i < h.size := fun i hi => by
  have q : i = 0 ∨ i = 1 := by omega
  rcases q with rfl | rfl
  · exact K.2.2.1.lt
  · exact K.2.2.2.2.lt
theorem d_jdk_29_method_65_code_0 : decode jdk_29_method_65_code 0 = .ok (.iload_n 0, 1) := by decide +kernel
theorem d_jdk_29_method_65_code_1 : decode jdk_29_method_65_code 1 = .ok (.iload_n 1, 1) := by decide +kernel
theorem d_jdk_29_method_65_code_2 : decode jdk_29_method_65_code 2 = .ok (.if_icmp .lt 7, 3) := by decide +kernel
theorem d_jdk_29_method_65_code_9 : decode jdk_29_method_65_code 9 = .ok (.iload_n 1, 1) := by decide +kernel
theorem d_jdk_29_method_65_code_10 : decode jdk_29_method_65_code 10 = .ok (.ireturn, 1) := by decide +kernel
set_option maxRecDepth 65536 in
set_option maxHeartbeats 40000000 in
theorem rm_max_t (l : Launch) (Z : State) (a0 : Array Value) (hw : ∀ d ∈ tables_1, d.before a0 Z = true) (w : Nat → Addr) (κ : Nat → ClassId) (h0 : Heap) (n0 : Nat) (Z0 : n0 ≤ h0.size) (K : Kon Z h0 w κ) (ma mb : Int32) (hm : ma < mb) :
    OM l Z (⟨"java/lang/Math", "max", "(II)I"⟩ : MethodName) jdk_29_method_65_code 2 (some .int) [] ({ frames := 0, cells := 0, slots := 0, locals := 0 } : Room) #[(.int ma), (.int mb)] h0 (OP (some (.int mb)) n0 h0) := by
  refine MetFree.of_bodySF (Jvm.Free.JP.mathPlain rfl (by decide +kernel)) hisR ?_
  intro p e s m args below meth c s₁ Bd hml0 hP hK
  obtain ⟨rfl, hZ, hh⟩ := hP
  have hx := Bd.exec
  have hby := Bd.bytes
  have hml : c.maxLocals = 2 := hml0
  have hown : s.vm.findClass "java/lang/Math" = some m.cls := findClass_of_methodNamed Bd.named
  have hnm := (name_of_methodNamed Bd.named Bd.method).1
  have X0 : Stand p l e ({ frames := 0, cells := 0, slots := 0, locals := 0 } : Room) s m #[(.int ma), (.int mb)] below meth c s₁ [] 0 0 := Stand.of_body Bd
  have e0 : s₁.heap = h0 := by rw [← hh, Bd.state]; rfl
  have N0 := Fr.nil n0
  have pre0 : ∀ t, Steps p.tables e below (s₁.setTop (mkF m 0 #[.val (.int ma), .val (.int mb)] [])) t → Steps p.tables e below (s₁.setTop (entryFrame m #[(.int ma), (.int mb)] 2)) t := fun t k => castTop (by first | rfl | simp [entryFrame, mkF, argsToLocals, Value.category]) k
  obtain ⟨fs, hr, hrun, hended, hW, hsame⟩ := X0.leave (v := (some (.int mb))) (fun h => by rw [Bd.returns] at h; cases h)
  refine ⟨_, _, pre0 _ ?_, hrun, hended, _, _, rfl, ?_, ⟨_, rfl⟩, hW, hsame.mono (by decide) (by decide)⟩
  · show Steps p.tables e below (s₁.setTop (mkF m 0 #[.val (.int ma), .val (.int mb)] [])) _
    refine XS.iloadN X0.here hx rfl (hb hby d_jdk_29_method_65_code_0) rfl ?_
    show Steps p.tables e below (s₁.setTop (mkF m 1 #[.val (.int ma), .val (.int mb)] [(.int ma)])) _
    refine XS.iloadN X0.here hx rfl (hb hby d_jdk_29_method_65_code_1) rfl ?_
    show Steps p.tables e below (s₁.setTop (mkF m 2 #[.val (.int ma), .val (.int mb)] [(.int mb), (.int ma)])) _
    refine XS.icmpYes X0.here hx rfl (pc0 := 2) (pc' := 9) rfl (hb hby d_jdk_29_method_65_code_2) rfl (tlt hm).1 (by decide) (by decide) ?_
    show Steps p.tables e below (s₁.setTop (mkF m 9 #[.val (.int ma), .val (.int mb)] [])) _
    refine XS.iloadN X0.here hx rfl (hb hby d_jdk_29_method_65_code_9) rfl ?_
    show Steps p.tables e below (s₁.setTop (mkF m 10 #[.val (.int ma), .val (.int mb)] [(.int mb)])) _
    exact retI X0 hx Bd.returns (hb hby d_jdk_29_method_65_code_10) hr
  · exact ⟨rfl, N0, e0⟩
theorem d_jdk_29_method_65_code_5 : decode jdk_29_method_65_code 5 = .ok (.iload_n 0, 1) := by decide +kernel
theorem d_jdk_29_method_65_code_6 : decode jdk_29_method_65_code 6 = .ok (.goto 4, 3) := by decide +kernel
set_option maxRecDepth 65536 in
set_option maxHeartbeats 40000000 in
theorem rm_max_f (l : Launch) (Z : State) (a0 : Array Value) (hw : ∀ d ∈ tables_1, d.before a0 Z = true) (w : Nat → Addr) (κ : Nat → ClassId) (h0 : Heap) (n0 : Nat) (Z0 : n0 ≤ h0.size) (K : Kon Z h0 w κ) (ma mb : Int32) (hm : ¬ (ma < mb)) :
    OM l Z (⟨"java/lang/Math", "max", "(II)I"⟩ : MethodName) jdk_29_method_65_code 2 (some .int) [] ({ frames := 0, cells := 0, slots := 0, locals := 0 } : Room) #[(.int ma), (.int mb)] h0 (OP (some (.int ma)) n0 h0) := by
  refine MetFree.of_bodySF (Jvm.Free.JP.mathPlain rfl (by decide +kernel)) hisR ?_
  intro p e s m args below meth c s₁ Bd hml0 hP hK
  obtain ⟨rfl, hZ, hh⟩ := hP
  have hx := Bd.exec
  have hby := Bd.bytes
  have hml : c.maxLocals = 2 := hml0
  have hown : s.vm.findClass "java/lang/Math" = some m.cls := findClass_of_methodNamed Bd.named
  have hnm := (name_of_methodNamed Bd.named Bd.method).1
  have X0 : Stand p l e ({ frames := 0, cells := 0, slots := 0, locals := 0 } : Room) s m #[(.int ma), (.int mb)] below meth c s₁ [] 0 0 := Stand.of_body Bd
  have e0 : s₁.heap = h0 := by rw [← hh, Bd.state]; rfl
  have N0 := Fr.nil n0
  have pre0 : ∀ t, Steps p.tables e below (s₁.setTop (mkF m 0 #[.val (.int ma), .val (.int mb)] [])) t → Steps p.tables e below (s₁.setTop (entryFrame m #[(.int ma), (.int mb)] 2)) t := fun t k => castTop (by first | rfl | simp [entryFrame, mkF, argsToLocals, Value.category]) k
  obtain ⟨fs, hr, hrun, hended, hW, hsame⟩ := X0.leave (v := (some (.int ma))) (fun h => by rw [Bd.returns] at h; cases h)
  refine ⟨_, _, pre0 _ ?_, hrun, hended, _, _, rfl, ?_, ⟨_, rfl⟩, hW, hsame.mono (by decide) (by decide)⟩
  · show Steps p.tables e below (s₁.setTop (mkF m 0 #[.val (.int ma), .val (.int mb)] [])) _
    refine XS.iloadN X0.here hx rfl (hb hby d_jdk_29_method_65_code_0) rfl ?_
    show Steps p.tables e below (s₁.setTop (mkF m 1 #[.val (.int ma), .val (.int mb)] [(.int ma)])) _
    refine XS.iloadN X0.here hx rfl (hb hby d_jdk_29_method_65_code_1) rfl ?_
    show Steps p.tables e below (s₁.setTop (mkF m 2 #[.val (.int ma), .val (.int mb)] [(.int mb), (.int ma)])) _
    refine XS.icmpNo X0.here hx rfl (hb hby d_jdk_29_method_65_code_2) rfl (flt hm).1 ?_
    show Steps p.tables e below (s₁.setTop (mkF m 5 #[.val (.int ma), .val (.int mb)] [])) _
    refine XS.iloadN X0.here hx rfl (hb hby d_jdk_29_method_65_code_5) rfl ?_
    show Steps p.tables e below (s₁.setTop (mkF m 6 #[.val (.int ma), .val (.int mb)] [(.int ma)])) _
    refine XS.goto X0.here hx rfl (pc0 := 6) (pc' := 10) rfl (hb hby d_jdk_29_method_65_code_6) (by decide) (by decide) ?_
    show Steps p.tables e below (s₁.setTop (mkF m 10 #[.val (.int ma), .val (.int mb)] [(.int ma)])) _
    exact retI X0 hx Bd.returns (hb hby d_jdk_29_method_65_code_10) hr
  · exact ⟨rfl, N0, e0⟩
theorem rm_max (l : Launch) (Z : State) (a0 : Array Value) (hw : ∀ d ∈ tables_1, d.before a0 Z = true) (w : Nat → Addr) (κ : Nat → ClassId) (h0 : Heap) (n0 : Nat) (Z0 : n0 ≤ h0.size) (K : Kon Z h0 w κ) (ma mb : Int32) :
    OM l Z (⟨"java/lang/Math", "max", "(II)I"⟩ : MethodName) jdk_29_method_65_code 2 (some .int) [] ({ frames := 0, cells := 0, slots := 0, locals := 0 } : Room) #[(.int ma), (.int mb)] h0 (OP (some (.int (imax ma mb))) n0 h0) := by
  by_cases hm : ma < mb
  · rw [show imax ma mb = mb from if_pos hm]; exact rm_max_t l Z a0 hw w κ h0 n0 Z0 K ma mb hm
  · rw [show imax ma mb = ma from if_neg hm]; exact rm_max_f l Z a0 hw w κ h0 n0 Z0 K ma mb hm
theorem d_prog_7_method_1_code_0 : decode prog_7_method_1_code 0 = .ok (.aload_n 0, 1) := by decide +kernel
theorem d_prog_7_method_1_code_1 : decode prog_7_method_1_code 1 = .ok (.invokespecial 1, 3) := by decide +kernel
theorem d_prog_7_method_1_code_4 : decode prog_7_method_1_code 4 = .ok (.aload_n 0, 1) := by decide +kernel
theorem d_prog_7_method_1_code_5 : decode prog_7_method_1_code 5 = .ok (.getstatic 7, 3) := by decide +kernel
theorem d_prog_7_method_1_code_8 : decode prog_7_method_1_code 8 = .ok (.putfield 13, 3) := by decide +kernel
theorem d_prog_7_method_1_code_11 : decode prog_7_method_1_code 11 = .ok (.aload_n 0, 1) := by decide +kernel
theorem d_prog_7_method_1_code_12 : decode prog_7_method_1_code 12 = .ok (.getstatic 16, 3) := by decide +kernel
theorem d_prog_7_method_1_code_15 : decode prog_7_method_1_code 15 = .ok (.putfield 20, 3) := by decide +kernel
theorem d_prog_7_method_1_code_18 : decode prog_7_method_1_code 18 = .ok (.aload_n 0, 1) := by decide +kernel
theorem d_prog_7_method_1_code_19 : decode prog_7_method_1_code 19 = .ok (.getstatic 7, 3) := by decide +kernel
theorem d_prog_7_method_1_code_22 : decode prog_7_method_1_code 22 = .ok (.putfield 23, 3) := by decide +kernel
theorem d_prog_7_method_1_code_25 : decode prog_7_method_1_code 25 = .ok (.return_, 1) := by decide +kernel
def Q_rm__init__1 (Z : State) (w : Nat → Addr) (κ : Nat → ClassId) (n0 : Nat) (u0 u1 u2 u3 u4 u5 : Int32) (b1 : Addr) (v : Option Value) (h : Heap) (L : List Loc) : Prop := (v = none) ∧ (Fr n0 L) ∧ (n0 ≤ h.size) ∧ (Kon Z h w κ) ∧ (Exa Z h b1 "com/example/tight_tree/tighttree/Block") ∧ (Fld Z h b1 "com/example/tight_tree/tighttree/Block" "nodes" "[I" (.ref (w 0))) ∧ (Fld Z h b1 "com/example/tight_tree/tighttree/Block" "parts" "[Lcom/example/tight_tree/tighttree/Block;" (.ref (w 1))) ∧ (Fld Z h b1 "com/example/tight_tree/tighttree/Block" "placings" "[I" (.ref (w 0))) ∧ (Fld Z h b1 "com/example/tight_tree/tighttree/Block" "height" "I" (.int (0 : Int32))) ∧ (Fld Z h b1 "com/example/tight_tree/tighttree/Block" "width" "I" (.int (0 : Int32))) ∧ (Fld Z h b1 "com/example/tight_tree/tighttree/Block" "nodeCount" "I" (.int (0 : Int32))) ∧ (Fld Z h b1 "com/example/tight_tree/tighttree/Block" "runs" "Lcom/example/tight_tree/tighttree/Block$Run;" .null)
theorem pn_com_example_tight_tree_tighttree_Block : plainName "com/example/tight_tree/tighttree/Block" = true := by first | (simp [plainName, overriddenIn]; done) | decide +kernel
set_option maxRecDepth 65536 in
set_option maxHeartbeats 40000000 in
theorem rm__init__1 (l : Launch) (Z : State) (a0 : Array Value) (hw : ∀ d ∈ tables_1, d.before a0 Z = true) (w : Nat → Addr) (κ : Nat → ClassId) (h0 : Heap) (n0 : Nat) (Z0 : n0 ≤ h0.size) (K : Kon Z h0 w κ) (u0 u1 u2 u3 u4 u5 : Int32) (b1 : Addr) (fE_b1 : Exa Z h0 b1 "com/example/tight_tree/tighttree/Block") (fF_b1_com_example_tight_tree_tighttree_Block_nodes : Fld Z h0 b1 "com/example/tight_tree/tighttree/Block" "nodes" "[I" .null) (fF_b1_com_example_tight_tree_tighttree_Block_parts : Fld Z h0 b1 "com/example/tight_tree/tighttree/Block" "parts" "[Lcom/example/tight_tree/tighttree/Block;" .null) (fF_b1_com_example_tight_tree_tighttree_Block_placings : Fld Z h0 b1 "com/example/tight_tree/tighttree/Block" "placings" "[I" .null) (fF_b1_com_example_tight_tree_tighttree_Block_height : Fld Z h0 b1 "com/example/tight_tree/tighttree/Block" "height" "I" (.int (0 : Int32))) (fF_b1_com_example_tight_tree_tighttree_Block_width : Fld Z h0 b1 "com/example/tight_tree/tighttree/Block" "width" "I" (.int (0 : Int32))) (fF_b1_com_example_tight_tree_tighttree_Block_nodeCount : Fld Z h0 b1 "com/example/tight_tree/tighttree/Block" "nodeCount" "I" (.int (0 : Int32))) (fF_b1_com_example_tight_tree_tighttree_Block_runs : Fld Z h0 b1 "com/example/tight_tree/tighttree/Block" "runs" "Lcom/example/tight_tree/tighttree/Block$Run;" .null) (fG_b1 : n0 ≤ b1) (fKN_b1 : ∀ i, i < 2 → w i ≠ b1) :
    OM l Z (⟨"com/example/tight_tree/tighttree/Block", "<init>", "()V"⟩ : MethodName) prog_7_method_1_code 1 none [] ({ frames := 1, cells := 0, slots := 0, locals := 12 } : Room) #[(.ref b1)] h0 (Q_rm__init__1 Z w κ n0 u0 u1 u2 u3 u4 u5 b1) := by
  refine MetFree.of_bodySF (plainFor_of_name pn_com_example_tight_tree_tighttree_Block) hisR ?_
  intro p e s m args below meth c s₁ Bd hml0 hP hK
  obtain ⟨rfl, hZ, hh⟩ := hP
  have hx := Bd.exec
  have hby := Bd.bytes
  have hml : c.maxLocals = 1 := hml0
  have hown : s.vm.findClass "com/example/tight_tree/tighttree/Block" = some m.cls := findClass_of_methodNamed Bd.named
  have hnm := (name_of_methodNamed Bd.named Bd.method).1
  have X0 : Stand p l e ({ frames := 1, cells := 0, slots := 0, locals := 12 } : Room) s m #[(.ref b1)] below meth c s₁ [] 0 0 := Stand.of_body Bd
  have e0 : s₁.heap = h0 := by rw [← hh, Bd.state]; rfl
  have N0 := Fr.nil n0
  have pre0 : ∀ t, Steps p.tables e below (s₁.setTop (mkF m 0 #[.val (.ref b1)] [])) t → Steps p.tables e below (s₁.setTop (entryFrame m #[(.ref b1)] 1)) t := fun t k => castTop (by first | rfl | simp [entryFrame, mkF, argsToLocals, Value.category]) k
  obtain ⟨T1, X1, e1, st1⟩ := initO X0 hx hZ hown (hw _ (List.mem_of_getElem? (i := 6) rfl)) (hw _ (List.mem_of_getElem? (i := 7) rfl)) (hw _ (List.mem_of_getElem? (i := 8) rfl)) e0 (g := (mkF m 1 #[.val (.ref b1)] [(.ref b1)])) rfl (by rw [hml]; rfl) rfl (hb hby d_prog_7_method_1_code_1) (by decide) (W := 0) (by show 2 * 0 + _ ≤ _; exact Nat.le_of_eq rfl) (by decide)
  obtain ⟨T2, X2, e2, st2⟩ := getS2 X1 hx hZ hown (host := "") (Or.inl (hw _ (List.mem_of_getElem? (i := 9) rfl))) Via.refl e1 K.1 (g := (mkF m 5 #[.val (.ref b1)] [(.ref b1)])) rfl (hb hby d_prog_7_method_1_code_5)
  obtain ⟨T3, h3, X3, e3, W3, st3⟩ := putF X2 hx hZ hown (host := "") (Or.inl (hw _ (List.mem_of_getElem? (i := 11) rfl))) Via.refl e2 fF_b1_com_example_tight_tree_tighttree_Block_nodes fE_b1 (Or.inl (hw _ (List.mem_of_getElem? (i := 12) rfl))) (hw _ (List.mem_of_getElem? (i := 1) rfl)) (ty := (.array .int)) (by decide) rfl rfl (g := (mkF m 8 #[.val (.ref b1)] [(.ref (w 0)), (.ref b1)])) rfl rfl (hb hby d_prog_7_method_1_code_8)
  have f3_fE_b1 : Exa Z h3 b1 "com/example/tight_tree/tighttree/Block" := fE_b1.wr W3
  have f3_fF_b1_com_example_tight_tree_tighttree_Block_nodes : Fld Z h3 b1 "com/example/tight_tree/tighttree/Block" "nodes" "[I" (.ref (w 0)) := fF_b1_com_example_tight_tree_tighttree_Block_nodes.same W3
  have f3_fF_b1_com_example_tight_tree_tighttree_Block_parts : Fld Z h3 b1 "com/example/tight_tree/tighttree/Block" "parts" "[Lcom/example/tight_tree/tighttree/Block;" .null := fF_b1_com_example_tight_tree_tighttree_Block_parts.other W3 (Or.inr (slot_ne (Or.inl (hw _ (List.mem_of_getElem? (i := 16) rfl))) (Or.inl (hw _ (List.mem_of_getElem? (i := 12) rfl))) (by decide) (t := (.array (.object "com/example/tight_tree/tighttree/Block"))) (t' := (.array .int)) (by decide) (by decide)))
  have f3_fF_b1_com_example_tight_tree_tighttree_Block_placings : Fld Z h3 b1 "com/example/tight_tree/tighttree/Block" "placings" "[I" .null := fF_b1_com_example_tight_tree_tighttree_Block_placings.other W3 (Or.inr (slot_ne (Or.inl (hw _ (List.mem_of_getElem? (i := 18) rfl))) (Or.inl (hw _ (List.mem_of_getElem? (i := 12) rfl))) (by decide) (t := (.array .int)) (t' := (.array .int)) (by decide) (by decide)))
  have f3_fF_b1_com_example_tight_tree_tighttree_Block_height : Fld Z h3 b1 "com/example/tight_tree/tighttree/Block" "height" "I" (.int (0 : Int32)) := fF_b1_com_example_tight_tree_tighttree_Block_height.other W3 (Or.inr (slot_ne (Or.inl (hw _ (List.mem_of_getElem? (i := 25) rfl))) (Or.inl (hw _ (List.mem_of_getElem? (i := 12) rfl))) (by decide) (t := .int) (t' := (.array .int)) (by decide) (by decide)))
  have f3_fF_b1_com_example_tight_tree_tighttree_Block_width : Fld Z h3 b1 "com/example/tight_tree/tighttree/Block" "width" "I" (.int (0 : Int32)) := fF_b1_com_example_tight_tree_tighttree_Block_width.other W3 (Or.inr (slot_ne (Or.inl (hw _ (List.mem_of_getElem? (i := 27) rfl))) (Or.inl (hw _ (List.mem_of_getElem? (i := 12) rfl))) (by decide) (t := .int) (t' := (.array .int)) (by decide) (by decide)))
  have f3_fF_b1_com_example_tight_tree_tighttree_Block_nodeCount : Fld Z h3 b1 "com/example/tight_tree/tighttree/Block" "nodeCount" "I" (.int (0 : Int32)) := fF_b1_com_example_tight_tree_tighttree_Block_nodeCount.other W3 (Or.inr (slot_ne (Or.inl (hw _ (List.mem_of_getElem? (i := 34) rfl))) (Or.inl (hw _ (List.mem_of_getElem? (i := 12) rfl))) (by decide) (t := .int) (t' := (.array .int)) (by decide) (by decide)))
  have f3_fF_b1_com_example_tight_tree_tighttree_Block_runs : Fld Z h3 b1 "com/example/tight_tree/tighttree/Block" "runs" "Lcom/example/tight_tree/tighttree/Block$Run;" .null := fF_b1_com_example_tight_tree_tighttree_Block_runs.other W3 (Or.inr (slot_ne (Or.inl (hw _ (List.mem_of_getElem? (i := 64) rfl))) (Or.inl (hw _ (List.mem_of_getElem? (i := 12) rfl))) (by decide) (t := (.object "com/example/tight_tree/tighttree/Block$Run")) (t' := (.array .int)) (by decide) (by decide)))
  have K3 := K.wr W3 fKN_b1
  have Z3 : n0 ≤ h3.size := Nat.le_trans Z0 (Nat.le_of_eq W3.size.symm)
  have N3 := Fr.snoc X3 N0 fG_b1
  obtain ⟨T4, X4, e4, st4⟩ := getS2 X3 hx hZ hown (host := "") (Or.inl (hw _ (List.mem_of_getElem? (i := 13) rfl))) Via.refl e3 K3.2.1 (g := (mkF m 12 #[.val (.ref b1)] [(.ref b1)])) rfl (hb hby d_prog_7_method_1_code_12)
  obtain ⟨T5, h5, X5, e5, W5, st5⟩ := putF X4 hx hZ hown (host := "") (Or.inl (hw _ (List.mem_of_getElem? (i := 15) rfl))) Via.refl e4 f3_fF_b1_com_example_tight_tree_tighttree_Block_parts f3_fE_b1 (Or.inl (hw _ (List.mem_of_getElem? (i := 16) rfl))) (hw _ (List.mem_of_getElem? (i := 1) rfl)) (ty := (.array (.object "com/example/tight_tree/tighttree/Block"))) (by decide) rfl rfl (g := (mkF m 15 #[.val (.ref b1)] [(.ref (w 1)), (.ref b1)])) rfl rfl (hb hby d_prog_7_method_1_code_15)
  have f5_fE_b1 : Exa Z h5 b1 "com/example/tight_tree/tighttree/Block" := f3_fE_b1.wr W5
  have f5_fF_b1_com_example_tight_tree_tighttree_Block_nodes : Fld Z h5 b1 "com/example/tight_tree/tighttree/Block" "nodes" "[I" (.ref (w 0)) := f3_fF_b1_com_example_tight_tree_tighttree_Block_nodes.other W5 (Or.inr (slot_ne (Or.inl (hw _ (List.mem_of_getElem? (i := 12) rfl))) (Or.inl (hw _ (List.mem_of_getElem? (i := 16) rfl))) (by decide) (t := (.array .int)) (t' := (.array (.object "com/example/tight_tree/tighttree/Block"))) (by decide) (by decide)))
  have f5_fF_b1_com_example_tight_tree_tighttree_Block_parts : Fld Z h5 b1 "com/example/tight_tree/tighttree/Block" "parts" "[Lcom/example/tight_tree/tighttree/Block;" (.ref (w 1)) := f3_fF_b1_com_example_tight_tree_tighttree_Block_parts.same W5
  have f5_fF_b1_com_example_tight_tree_tighttree_Block_placings : Fld Z h5 b1 "com/example/tight_tree/tighttree/Block" "placings" "[I" .null := f3_fF_b1_com_example_tight_tree_tighttree_Block_placings.other W5 (Or.inr (slot_ne (Or.inl (hw _ (List.mem_of_getElem? (i := 18) rfl))) (Or.inl (hw _ (List.mem_of_getElem? (i := 16) rfl))) (by decide) (t := (.array .int)) (t' := (.array (.object "com/example/tight_tree/tighttree/Block"))) (by decide) (by decide)))
  have f5_fF_b1_com_example_tight_tree_tighttree_Block_height : Fld Z h5 b1 "com/example/tight_tree/tighttree/Block" "height" "I" (.int (0 : Int32)) := f3_fF_b1_com_example_tight_tree_tighttree_Block_height.other W5 (Or.inr (slot_ne (Or.inl (hw _ (List.mem_of_getElem? (i := 25) rfl))) (Or.inl (hw _ (List.mem_of_getElem? (i := 16) rfl))) (by decide) (t := .int) (t' := (.array (.object "com/example/tight_tree/tighttree/Block"))) (by decide) (by decide)))
  have f5_fF_b1_com_example_tight_tree_tighttree_Block_width : Fld Z h5 b1 "com/example/tight_tree/tighttree/Block" "width" "I" (.int (0 : Int32)) := f3_fF_b1_com_example_tight_tree_tighttree_Block_width.other W5 (Or.inr (slot_ne (Or.inl (hw _ (List.mem_of_getElem? (i := 27) rfl))) (Or.inl (hw _ (List.mem_of_getElem? (i := 16) rfl))) (by decide) (t := .int) (t' := (.array (.object "com/example/tight_tree/tighttree/Block"))) (by decide) (by decide)))
  have f5_fF_b1_com_example_tight_tree_tighttree_Block_nodeCount : Fld Z h5 b1 "com/example/tight_tree/tighttree/Block" "nodeCount" "I" (.int (0 : Int32)) := f3_fF_b1_com_example_tight_tree_tighttree_Block_nodeCount.other W5 (Or.inr (slot_ne (Or.inl (hw _ (List.mem_of_getElem? (i := 34) rfl))) (Or.inl (hw _ (List.mem_of_getElem? (i := 16) rfl))) (by decide) (t := .int) (t' := (.array (.object "com/example/tight_tree/tighttree/Block"))) (by decide) (by decide)))
  have f5_fF_b1_com_example_tight_tree_tighttree_Block_runs : Fld Z h5 b1 "com/example/tight_tree/tighttree/Block" "runs" "Lcom/example/tight_tree/tighttree/Block$Run;" .null := f3_fF_b1_com_example_tight_tree_tighttree_Block_runs.other W5 (Or.inr (slot_ne (Or.inl (hw _ (List.mem_of_getElem? (i := 64) rfl))) (Or.inl (hw _ (List.mem_of_getElem? (i := 16) rfl))) (by decide) (t := (.object "com/example/tight_tree/tighttree/Block$Run")) (t' := (.array (.object "com/example/tight_tree/tighttree/Block"))) (by decide) (by decide)))
  have K5 := K3.wr W5 fKN_b1
  have Z5 : n0 ≤ h5.size := Nat.le_trans Z3 (Nat.le_of_eq W5.size.symm)
  have N5 := Fr.snoc X5 N3 fG_b1
  obtain ⟨T6, X6, e6, st6⟩ := getS2 X5 hx hZ hown (host := "") (Or.inl (hw _ (List.mem_of_getElem? (i := 9) rfl))) Via.refl e5 K5.1 (g := (mkF m 19 #[.val (.ref b1)] [(.ref b1)])) rfl (hb hby d_prog_7_method_1_code_19)
  obtain ⟨T7, h7, X7, e7, W7, st7⟩ := putF X6 hx hZ hown (host := "") (Or.inl (hw _ (List.mem_of_getElem? (i := 17) rfl))) Via.refl e6 f5_fF_b1_com_example_tight_tree_tighttree_Block_placings f5_fE_b1 (Or.inl (hw _ (List.mem_of_getElem? (i := 18) rfl))) (hw _ (List.mem_of_getElem? (i := 1) rfl)) (ty := (.array .int)) (by decide) rfl rfl (g := (mkF m 22 #[.val (.ref b1)] [(.ref (w 0)), (.ref b1)])) rfl rfl (hb hby d_prog_7_method_1_code_22)
  have f7_fE_b1 : Exa Z h7 b1 "com/example/tight_tree/tighttree/Block" := f5_fE_b1.wr W7
  have f7_fF_b1_com_example_tight_tree_tighttree_Block_nodes : Fld Z h7 b1 "com/example/tight_tree/tighttree/Block" "nodes" "[I" (.ref (w 0)) := f5_fF_b1_com_example_tight_tree_tighttree_Block_nodes.other W7 (Or.inr (slot_ne (Or.inl (hw _ (List.mem_of_getElem? (i := 12) rfl))) (Or.inl (hw _ (List.mem_of_getElem? (i := 18) rfl))) (by decide) (t := (.array .int)) (t' := (.array .int)) (by decide) (by decide)))
  have f7_fF_b1_com_example_tight_tree_tighttree_Block_parts : Fld Z h7 b1 "com/example/tight_tree/tighttree/Block" "parts" "[Lcom/example/tight_tree/tighttree/Block;" (.ref (w 1)) := f5_fF_b1_com_example_tight_tree_tighttree_Block_parts.other W7 (Or.inr (slot_ne (Or.inl (hw _ (List.mem_of_getElem? (i := 16) rfl))) (Or.inl (hw _ (List.mem_of_getElem? (i := 18) rfl))) (by decide) (t := (.array (.object "com/example/tight_tree/tighttree/Block"))) (t' := (.array .int)) (by decide) (by decide)))
  have f7_fF_b1_com_example_tight_tree_tighttree_Block_placings : Fld Z h7 b1 "com/example/tight_tree/tighttree/Block" "placings" "[I" (.ref (w 0)) := f5_fF_b1_com_example_tight_tree_tighttree_Block_placings.same W7
  have f7_fF_b1_com_example_tight_tree_tighttree_Block_height : Fld Z h7 b1 "com/example/tight_tree/tighttree/Block" "height" "I" (.int (0 : Int32)) := f5_fF_b1_com_example_tight_tree_tighttree_Block_height.other W7 (Or.inr (slot_ne (Or.inl (hw _ (List.mem_of_getElem? (i := 25) rfl))) (Or.inl (hw _ (List.mem_of_getElem? (i := 18) rfl))) (by decide) (t := .int) (t' := (.array .int)) (by decide) (by decide)))
  have f7_fF_b1_com_example_tight_tree_tighttree_Block_width : Fld Z h7 b1 "com/example/tight_tree/tighttree/Block" "width" "I" (.int (0 : Int32)) := f5_fF_b1_com_example_tight_tree_tighttree_Block_width.other W7 (Or.inr (slot_ne (Or.inl (hw _ (List.mem_of_getElem? (i := 27) rfl))) (Or.inl (hw _ (List.mem_of_getElem? (i := 18) rfl))) (by decide) (t := .int) (t' := (.array .int)) (by decide) (by decide)))
  have f7_fF_b1_com_example_tight_tree_tighttree_Block_nodeCount : Fld Z h7 b1 "com/example/tight_tree/tighttree/Block" "nodeCount" "I" (.int (0 : Int32)) := f5_fF_b1_com_example_tight_tree_tighttree_Block_nodeCount.other W7 (Or.inr (slot_ne (Or.inl (hw _ (List.mem_of_getElem? (i := 34) rfl))) (Or.inl (hw _ (List.mem_of_getElem? (i := 18) rfl))) (by decide) (t := .int) (t' := (.array .int)) (by decide) (by decide)))
  have f7_fF_b1_com_example_tight_tree_tighttree_Block_runs : Fld Z h7 b1 "com/example/tight_tree/tighttree/Block" "runs" "Lcom/example/tight_tree/tighttree/Block$Run;" .null := f5_fF_b1_com_example_tight_tree_tighttree_Block_runs.other W7 (Or.inr (slot_ne (Or.inl (hw _ (List.mem_of_getElem? (i := 64) rfl))) (Or.inl (hw _ (List.mem_of_getElem? (i := 18) rfl))) (by decide) (t := (.object "com/example/tight_tree/tighttree/Block$Run")) (t' := (.array .int)) (by decide) (by decide)))
  have K7 := K5.wr W7 fKN_b1
  have Z7 : n0 ≤ h7.size := Nat.le_trans Z5 (Nat.le_of_eq W7.size.symm)
  have N7 := Fr.snoc X7 N5 fG_b1
  obtain ⟨fs, hr, hrun, hended, hW, hsame⟩ := X7.leave (v := none) (fun _ => rfl)
  refine ⟨_, _, pre0 _ ?_, hrun, hended, _, _, rfl, ?_, ⟨_, rfl⟩, hW, hsame.mono (by decide) (by decide)⟩
  · show Steps p.tables e below (s₁.setTop (mkF m 0 #[.val (.ref b1)] [])) _
    refine XS.aloadN X0.here hx rfl (hb hby d_prog_7_method_1_code_0) rfl rfl ?_
    show Steps p.tables e below (s₁.setTop (mkF m 1 #[.val (.ref b1)] [(.ref b1)])) _
    refine st1 _ ?_
    show Steps p.tables e below (T1.setTop (mkF m 4 #[.val (.ref b1)] [])) _
    refine XS.aloadN X1.here hx rfl (hb hby d_prog_7_method_1_code_4) rfl rfl ?_
    show Steps p.tables e below (T1.setTop (mkF m 5 #[.val (.ref b1)] [(.ref b1)])) _
    refine st2 _ ?_
    show Steps p.tables e below (T2.setTop (mkF m 8 #[.val (.ref b1)] [(.ref (w 0)), (.ref b1)])) _
    refine st3 _ ?_
    show Steps p.tables e below (T3.setTop (mkF m 11 #[.val (.ref b1)] [])) _
    refine XS.aloadN X3.here hx rfl (hb hby d_prog_7_method_1_code_11) rfl rfl ?_
    show Steps p.tables e below (T3.setTop (mkF m 12 #[.val (.ref b1)] [(.ref b1)])) _
    refine st4 _ ?_
    show Steps p.tables e below (T4.setTop (mkF m 15 #[.val (.ref b1)] [(.ref (w 1)), (.ref b1)])) _
    refine st5 _ ?_
    show Steps p.tables e below (T5.setTop (mkF m 18 #[.val (.ref b1)] [])) _
    refine XS.aloadN X5.here hx rfl (hb hby d_prog_7_method_1_code_18) rfl rfl ?_
    show Steps p.tables e below (T5.setTop (mkF m 19 #[.val (.ref b1)] [(.ref b1)])) _
    refine st6 _ ?_
    show Steps p.tables e below (T6.setTop (mkF m 22 #[.val (.ref b1)] [(.ref (w 0)), (.ref b1)])) _
    refine st7 _ ?_
    show Steps p.tables e below (T7.setTop (mkF m 25 #[.val (.ref b1)] [])) _
    exact X7.returnOut hx Bd.returns (hb hby d_prog_7_method_1_code_25) hr
  · show Q_rm__init__1 Z w κ n0 u0 u1 u2 u3 u4 u5 b1 _ T7.heap _
    rw [e7]
    exact ⟨rfl, N7, Z7, K7, f7_fE_b1, f7_fF_b1_com_example_tight_tree_tighttree_Block_nodes, f7_fF_b1_com_example_tight_tree_tighttree_Block_parts, f7_fF_b1_com_example_tight_tree_tighttree_Block_placings, f7_fF_b1_com_example_tight_tree_tighttree_Block_height, f7_fF_b1_com_example_tight_tree_tighttree_Block_width, f7_fF_b1_com_example_tight_tree_tighttree_Block_nodeCount, f7_fF_b1_com_example_tight_tree_tighttree_Block_runs⟩
theorem pd_2829V : parseMethodDescriptor "()V" = some ⟨[], none⟩ := by decide +kernel
theorem d_prog_7_method_11_code_0 : decode prog_7_method_11_code 0 = .ok (.iload_n 1, 1) := by decide +kernel
theorem d_prog_7_method_11_code_1 : decode prog_7_method_11_code 1 = .ok (.ifCond .eq 10, 3) := by decide +kernel
theorem d_prog_7_method_11_code_11 : decode prog_7_method_11_code 11 = .ok (.aload_n 0, 1) := by decide +kernel
theorem d_prog_7_method_11_code_12 : decode prog_7_method_11_code 12 = .ok (.getfield 101, 3) := by decide +kernel
theorem d_prog_7_method_11_code_15 : decode prog_7_method_11_code 15 = .ok (.ireturn, 1) := by decide +kernel
set_option maxRecDepth 65536 in
set_option maxHeartbeats 40000000 in
theorem rm_height_2 (l : Launch) (Z : State) (a0 : Array Value) (hw : ∀ d ∈ tables_1, d.before a0 Z = true) (w : Nat → Addr) (κ : Nat → ClassId) (h0 : Heap) (n0 : Nat) (Z0 : n0 ≤ h0.size) (K : Kon Z h0 w κ) (u0 u1 u2 u3 u4 u5 : Int32) (b1 : Addr) (fF_b1_com_example_tight_tree_tighttree_Block_height : Fld Z h0 b1 "com/example/tight_tree/tighttree/Block" "height" "I" (.int (0 : Int32))) :
    OM l Z (⟨"com/example/tight_tree/tighttree/Block", "height", "(Z)I"⟩ : MethodName) prog_7_method_11_code 2 (some .int) [] ({ frames := 0, cells := 0, slots := 0, locals := 0 } : Room) #[(.ref b1), (.int (0 : Int32))] h0 (OP (some (.int (0 : Int32))) n0 h0) := by
  refine MetFree.of_bodySF (plainFor_of_name pn_com_example_tight_tree_tighttree_Block) hisR ?_
  intro p e s m args below meth c s₁ Bd hml0 hP hK
  obtain ⟨rfl, hZ, hh⟩ := hP
  have hx := Bd.exec
  have hby := Bd.bytes
  have hml : c.maxLocals = 2 := hml0
  have hown : s.vm.findClass "com/example/tight_tree/tighttree/Block" = some m.cls := findClass_of_methodNamed Bd.named
  have hnm := (name_of_methodNamed Bd.named Bd.method).1
  have X0 : Stand p l e ({ frames := 0, cells := 0, slots := 0, locals := 0 } : Room) s m #[(.ref b1), (.int (0 : Int32))] below meth c s₁ [] 0 0 := Stand.of_body Bd
  have e0 : s₁.heap = h0 := by rw [← hh, Bd.state]; rfl
  have N0 := Fr.nil n0
  have pre0 : ∀ t, Steps p.tables e below (s₁.setTop (mkF m 0 #[.val (.ref b1), .val (.int (0 : Int32))] [])) t → Steps p.tables e below (s₁.setTop (entryFrame m #[(.ref b1), (.int (0 : Int32))] 2)) t := fun t k => castTop (by first | rfl | simp [entryFrame, mkF, argsToLocals, Value.category]) k
  obtain ⟨T1, X1, e1, st1⟩ := getF X0 hx hZ hown (host := "") (Or.inl (hw _ (List.mem_of_getElem? (i := 24) rfl))) Via.refl e0 fF_b1_com_example_tight_tree_tighttree_Block_height (g := (mkF m 12 #[.val (.ref b1), .val (.int (0 : Int32))] [(.ref b1)])) rfl rfl (hb hby d_prog_7_method_11_code_12)
  obtain ⟨fs, hr, hrun, hended, hW, hsame⟩ := X1.leave (v := (some (.int (0 : Int32)))) (fun h => by rw [Bd.returns] at h; cases h)
  refine ⟨_, _, pre0 _ ?_, hrun, hended, _, _, rfl, ?_, ⟨_, rfl⟩, hW, hsame.mono (by decide) (by decide)⟩
  · show Steps p.tables e below (s₁.setTop (mkF m 0 #[.val (.ref b1), .val (.int (0 : Int32))] [])) _
    refine XS.iloadN X0.here hx rfl (hb hby d_prog_7_method_11_code_0) rfl ?_
    show Steps p.tables e below (s₁.setTop (mkF m 1 #[.val (.ref b1), .val (.int (0 : Int32))] [(.int (0 : Int32))])) _
    refine XS.ifYes X0.here hx rfl (pc0 := 1) (pc' := 11) rfl (hb hby d_prog_7_method_11_code_1) rfl ((if0 _ _).trans (teq (by decide : (0 : Int32) = (0 : Int32))).1) (by decide) (by decide) ?_
    show Steps p.tables e below (s₁.setTop (mkF m 11 #[.val (.ref b1), .val (.int (0 : Int32))] [])) _
    refine XS.aloadN X0.here hx rfl (hb hby d_prog_7_method_11_code_11) rfl rfl ?_
    show Steps p.tables e below (s₁.setTop (mkF m 12 #[.val (.ref b1), .val (.int (0 : Int32))] [(.ref b1)])) _
    refine st1 _ ?_
    show Steps p.tables e below (T1.setTop (mkF m 15 #[.val (.ref b1), .val (.int (0 : Int32))] [(.int (0 : Int32))])) _
    exact retI X1 hx Bd.returns (hb hby d_prog_7_method_11_code_15) hr
  · exact ⟨rfl, N0, e1⟩
theorem pd_28Z29I : parseMethodDescriptor "(Z)I" = some ⟨[.boolean], some .int⟩ := by decide +kernel
theorem d_prog_7_method_11_code_4 : decode prog_7_method_11_code 4 = .ok (.aload_n 0, 1) := by decide +kernel
theorem d_prog_7_method_11_code_5 : decode prog_7_method_11_code 5 = .ok (.getfield 103, 3) := by decide +kernel
theorem d_prog_7_method_11_code_8 : decode prog_7_method_11_code 8 = .ok (.goto 7, 3) := by decide +kernel
set_option maxRecDepth 65536 in
set_option maxHeartbeats 40000000 in
theorem rm_height_3 (l : Launch) (Z : State) (a0 : Array Value) (hw : ∀ d ∈ tables_1, d.before a0 Z = true) (w : Nat → Addr) (κ : Nat → ClassId) (h0 : Heap) (n0 : Nat) (Z0 : n0 ≤ h0.size) (K : Kon Z h0 w κ) (u0 u1 u2 u3 u4 u5 : Int32) (b1 : Addr) (fF_b1_com_example_tight_tree_tighttree_Block_width : Fld Z h0 b1 "com/example/tight_tree/tighttree/Block" "width" "I" (.int (0 : Int32))) :
    OM l Z (⟨"com/example/tight_tree/tighttree/Block", "height", "(Z)I"⟩ : MethodName) prog_7_method_11_code 2 (some .int) [] ({ frames := 0, cells := 0, slots := 0, locals := 0 } : Room) #[(.ref b1), (.int (1 : Int32))] h0 (OP (some (.int (0 : Int32))) n0 h0) := by
  refine MetFree.of_bodySF (plainFor_of_name pn_com_example_tight_tree_tighttree_Block) hisR ?_
  intro p e s m args below meth c s₁ Bd hml0 hP hK
  obtain ⟨rfl, hZ, hh⟩ := hP
  have hx := Bd.exec
  have hby := Bd.bytes
  have hml : c.maxLocals = 2 := hml0
  have hown : s.vm.findClass "com/example/tight_tree/tighttree/Block" = some m.cls := findClass_of_methodNamed Bd.named
  have hnm := (name_of_methodNamed Bd.named Bd.method).1
  have X0 : Stand p l e ({ frames := 0, cells := 0, slots := 0, locals := 0 } : Room) s m #[(.ref b1), (.int (1 : Int32))] below meth c s₁ [] 0 0 := Stand.of_body Bd
  have e0 : s₁.heap = h0 := by rw [← hh, Bd.state]; rfl
  have N0 := Fr.nil n0
  have pre0 : ∀ t, Steps p.tables e below (s₁.setTop (mkF m 0 #[.val (.ref b1), .val (.int (1 : Int32))] [])) t → Steps p.tables e below (s₁.setTop (entryFrame m #[(.ref b1), (.int (1 : Int32))] 2)) t := fun t k => castTop (by first | rfl | simp [entryFrame, mkF, argsToLocals, Value.category]) k
  obtain ⟨T1, X1, e1, st1⟩ := getF X0 hx hZ hown (host := "") (Or.inl (hw _ (List.mem_of_getElem? (i := 26) rfl))) Via.refl e0 fF_b1_com_example_tight_tree_tighttree_Block_width (g := (mkF m 5 #[.val (.ref b1), .val (.int (1 : Int32))] [(.ref b1)])) rfl rfl (hb hby d_prog_7_method_11_code_5)
  obtain ⟨fs, hr, hrun, hended, hW, hsame⟩ := X1.leave (v := (some (.int (0 : Int32)))) (fun h => by rw [Bd.returns] at h; cases h)
  refine ⟨_, _, pre0 _ ?_, hrun, hended, _, _, rfl, ?_, ⟨_, rfl⟩, hW, hsame.mono (by decide) (by decide)⟩
  · show Steps p.tables e below (s₁.setTop (mkF m 0 #[.val (.ref b1), .val (.int (1 : Int32))] [])) _
    refine XS.iloadN X0.here hx rfl (hb hby d_prog_7_method_11_code_0) rfl ?_
    show Steps p.tables e below (s₁.setTop (mkF m 1 #[.val (.ref b1), .val (.int (1 : Int32))] [(.int (1 : Int32))])) _
    refine XS.ifNo X0.here hx rfl (hb hby d_prog_7_method_11_code_1) rfl ((if0 _ _).trans (feq (by decide : ¬ ((1 : Int32) = (0 : Int32)))).1) ?_
    show Steps p.tables e below (s₁.setTop (mkF m 4 #[.val (.ref b1), .val (.int (1 : Int32))] [])) _
    refine XS.aloadN X0.here hx rfl (hb hby d_prog_7_method_11_code_4) rfl rfl ?_
    show Steps p.tables e below (s₁.setTop (mkF m 5 #[.val (.ref b1), .val (.int (1 : Int32))] [(.ref b1)])) _
    refine st1 _ ?_
    show Steps p.tables e below (T1.setTop (mkF m 8 #[.val (.ref b1), .val (.int (1 : Int32))] [(.int (0 : Int32))])) _
    refine XS.goto X1.here hx rfl (pc0 := 8) (pc' := 15) rfl (hb hby d_prog_7_method_11_code_8) (by decide) (by decide) ?_
    show Steps p.tables e below (T1.setTop (mkF m 15 #[.val (.ref b1), .val (.int (1 : Int32))] [(.int (0 : Int32))])) _
    exact retI X1 hx Bd.returns (hb hby d_prog_7_method_11_code_15) hr
  · exact ⟨rfl, N0, e1⟩
theorem d_prog_7_method_4_code_0 : decode prog_7_method_4_code 0 = .ok (.iconst 3, 1) := by decide +kernel
theorem d_prog_7_method_4_code_1 : decode prog_7_method_4_code 1 = .ok (.aload_n 0, 1) := by decide +kernel
theorem d_prog_7_method_4_code_2 : decode prog_7_method_4_code 2 = .ok (.getfield 38, 3) := by decide +kernel
theorem d_prog_7_method_4_code_5 : decode prog_7_method_4_code 5 = .ok (.imul, 1) := by decide +kernel
theorem d_prog_7_method_4_code_6 : decode prog_7_method_4_code 6 = .ok (.aload_n 0, 1) := by decide +kernel
theorem d_prog_7_method_4_code_7 : decode prog_7_method_4_code 7 = .ok (.getfield 13, 3) := by decide +kernel
theorem d_prog_7_method_4_code_10 : decode prog_7_method_4_code 10 = .ok (.arraylength, 1) := by decide +kernel
theorem d_prog_7_method_4_code_11 : decode prog_7_method_4_code 11 = .ok (.if_icmp .ne 25, 3) := by decide +kernel
theorem d_prog_7_method_4_code_14 : decode prog_7_method_4_code 14 = .ok (.aload_n 0, 1) := by decide +kernel
theorem d_prog_7_method_4_code_15 : decode prog_7_method_4_code 15 = .ok (.aload_n 0, 1) := by decide +kernel
theorem d_prog_7_method_4_code_16 : decode prog_7_method_4_code 16 = .ok (.getfield 13, 3) := by decide +kernel
theorem d_prog_7_method_4_code_19 : decode prog_7_method_4_code 19 = .ok (.iconst 3, 1) := by decide +kernel
theorem d_prog_7_method_4_code_20 : decode prog_7_method_4_code 20 = .ok (.iconst 2, 1) := by decide +kernel
theorem d_prog_7_method_4_code_21 : decode prog_7_method_4_code 21 = .ok (.aload_n 0, 1) := by decide +kernel
theorem d_prog_7_method_4_code_22 : decode prog_7_method_4_code 22 = .ok (.getfield 13, 3) := by decide +kernel
theorem d_prog_7_method_4_code_25 : decode prog_7_method_4_code 25 = .ok (.arraylength, 1) := by decide +kernel
theorem d_prog_7_method_4_code_26 : decode prog_7_method_4_code 26 = .ok (.imul, 1) := by decide +kernel
theorem d_prog_7_method_4_code_27 : decode prog_7_method_4_code 27 = .ok (.invokestatic 55, 3) := by decide +kernel
set_option maxRecDepth 65536 in
set_option maxHeartbeats 40000000 in
theorem rm_max_4 (l : Launch) (Z : State) (a0 : Array Value) (hw : ∀ d ∈ tables_1, d.before a0 Z = true) (w : Nat → Addr) (κ : Nat → ClassId) (h0 : Heap) (n0 : Nat) (Z0 : n0 ≤ h0.size) (K : Kon Z h0 w κ) (u0 u1 u2 u3 u4 u5 : Int32) (b1 : Addr) :
    OM l Z (⟨"java/lang/Math", "max", "(II)I"⟩ : MethodName) jdk_29_method_65_code 2 (some .int) [] ({ frames := 0, cells := 0, slots := 0, locals := 0 } : Room) #[(.int (3 : Int32)), (.int (0 : Int32))] h0 (OP (some (.int (3 : Int32))) n0 h0) := by
  refine MetFree.of_bodySF (Jvm.Free.JP.mathPlain rfl (by decide +kernel)) hisR ?_
  intro p e s m args below meth c s₁ Bd hml0 hP hK
  obtain ⟨rfl, hZ, hh⟩ := hP
  have hx := Bd.exec
  have hby := Bd.bytes
  have hml : c.maxLocals = 2 := hml0
  have hown : s.vm.findClass "java/lang/Math" = some m.cls := findClass_of_methodNamed Bd.named
  have hnm := (name_of_methodNamed Bd.named Bd.method).1
  have X0 : Stand p l e ({ frames := 0, cells := 0, slots := 0, locals := 0 } : Room) s m #[(.int (3 : Int32)), (.int (0 : Int32))] below meth c s₁ [] 0 0 := Stand.of_body Bd
  have e0 : s₁.heap = h0 := by rw [← hh, Bd.state]; rfl
  have N0 := Fr.nil n0
  have pre0 : ∀ t, Steps p.tables e below (s₁.setTop (mkF m 0 #[.val (.int (3 : Int32)), .val (.int (0 : Int32))] [])) t → Steps p.tables e below (s₁.setTop (entryFrame m #[(.int (3 : Int32)), (.int (0 : Int32))] 2)) t := fun t k => castTop (by first | rfl | simp [entryFrame, mkF, argsToLocals, Value.category]) k
  obtain ⟨fs, hr, hrun, hended, hW, hsame⟩ := X0.leave (v := (some (.int (3 : Int32)))) (fun h => by rw [Bd.returns] at h; cases h)
  refine ⟨_, _, pre0 _ ?_, hrun, hended, _, _, rfl, ?_, ⟨_, rfl⟩, hW, hsame.mono (by decide) (by decide)⟩
  · show Steps p.tables e below (s₁.setTop (mkF m 0 #[.val (.int (3 : Int32)), .val (.int (0 : Int32))] [])) _
    refine XS.iloadN X0.here hx rfl (hb hby d_jdk_29_method_65_code_0) rfl ?_
    show Steps p.tables e below (s₁.setTop (mkF m 1 #[.val (.int (3 : Int32)), .val (.int (0 : Int32))] [(.int (3 : Int32))])) _
    refine XS.iloadN X0.here hx rfl (hb hby d_jdk_29_method_65_code_1) rfl ?_
    show Steps p.tables e below (s₁.setTop (mkF m 2 #[.val (.int (3 : Int32)), .val (.int (0 : Int32))] [(.int (0 : Int32)), (.int (3 : Int32))])) _
    refine XS.icmpNo X0.here hx rfl (hb hby d_jdk_29_method_65_code_2) rfl (flt (by decide : ¬ ((3 : Int32) < (0 : Int32)))).1 ?_
    show Steps p.tables e below (s₁.setTop (mkF m 5 #[.val (.int (3 : Int32)), .val (.int (0 : Int32))] [])) _
    refine XS.iloadN X0.here hx rfl (hb hby d_jdk_29_method_65_code_5) rfl ?_
    show Steps p.tables e below (s₁.setTop (mkF m 6 #[.val (.int (3 : Int32)), .val (.int (0 : Int32))] [(.int (3 : Int32))])) _
    refine XS.goto X0.here hx rfl (pc0 := 6) (pc' := 10) rfl (hb hby d_jdk_29_method_65_code_6) (by decide) (by decide) ?_
    show Steps p.tables e below (s₁.setTop (mkF m 10 #[.val (.int (3 : Int32)), .val (.int (0 : Int32))] [(.int (3 : Int32))])) _
    exact retI X0 hx Bd.returns (hb hby d_jdk_29_method_65_code_10) hr
  · exact ⟨rfl, N0, e0⟩
theorem pd_28II29I : parseMethodDescriptor "(II)I" = some ⟨[.int, .int], some .int⟩ := by decide +kernel
theorem d_prog_7_method_4_code_30 : decode prog_7_method_4_code 30 = .ok (.invokestatic 42, 3) := by decide +kernel
theorem d_jdk_65_method_123_code_0 : decode jdk_65_method_123_code 0 = .ok (.iload_n 1, 1) := by decide +kernel
theorem d_jdk_65_method_123_code_1 : decode jdk_65_method_123_code 1 = .ok (.aload_n 0, 1) := by decide +kernel
theorem d_jdk_65_method_123_code_2 : decode jdk_65_method_123_code 2 = .ok (.arraylength, 1) := by decide +kernel
theorem d_jdk_65_method_123_code_3 : decode jdk_65_method_123_code 3 = .ok (.if_icmp .ne 11, 3) := by decide +kernel
theorem d_jdk_65_method_123_code_14 : decode jdk_65_method_123_code 14 = .ok (.iload_n 1, 1) := by decide +kernel
theorem d_jdk_65_method_123_code_15 : decode jdk_65_method_123_code 15 = .ok (.newarray .int, 2) := by decide +kernel
theorem d_jdk_65_method_123_code_17 : decode jdk_65_method_123_code 17 = .ok (.astore_n 2, 1) := by decide +kernel
theorem d_jdk_65_method_123_code_18 : decode jdk_65_method_123_code 18 = .ok (.aload_n 0, 1) := by decide +kernel
theorem d_jdk_65_method_123_code_19 : decode jdk_65_method_123_code 19 = .ok (.iconst 0, 1) := by decide +kernel
theorem d_jdk_65_method_123_code_20 : decode jdk_65_method_123_code 20 = .ok (.aload_n 2, 1) := by decide +kernel
theorem d_jdk_65_method_123_code_21 : decode jdk_65_method_123_code 21 = .ok (.iconst 0, 1) := by decide +kernel
theorem d_jdk_65_method_123_code_22 : decode jdk_65_method_123_code 22 = .ok (.aload_n 0, 1) := by decide +kernel
theorem d_jdk_65_method_123_code_23 : decode jdk_65_method_123_code 23 = .ok (.arraylength, 1) := by decide +kernel
theorem d_jdk_65_method_123_code_24 : decode jdk_65_method_123_code 24 = .ok (.iload_n 1, 1) := by decide +kernel
theorem d_jdk_65_method_123_code_25 : decode jdk_65_method_123_code 25 = .ok (.invokestatic 304, 3) := by decide +kernel
theorem d_jdk_29_method_69_code_0 : decode jdk_29_method_69_code 0 = .ok (.iload_n 0, 1) := by decide +kernel
theorem d_jdk_29_method_69_code_1 : decode jdk_29_method_69_code 1 = .ok (.iload_n 1, 1) := by decide +kernel
theorem d_jdk_29_method_69_code_2 : decode jdk_29_method_69_code 2 = .ok (.if_icmp .gt 7, 3) := by decide +kernel
theorem d_jdk_29_method_69_code_5 : decode jdk_29_method_69_code 5 = .ok (.iload_n 0, 1) := by decide +kernel
theorem d_jdk_29_method_69_code_6 : decode jdk_29_method_69_code 6 = .ok (.goto 4, 3) := by decide +kernel
theorem d_jdk_29_method_69_code_10 : decode jdk_29_method_69_code 10 = .ok (.ireturn, 1) := by decide +kernel
set_option maxRecDepth 65536 in
set_option maxHeartbeats 40000000 in
theorem rm_min_5 (l : Launch) (Z : State) (a0 : Array Value) (hw : ∀ d ∈ tables_1, d.before a0 Z = true) (w : Nat → Addr) (κ : Nat → ClassId) (h0 : Heap) (n0 : Nat) (Z0 : n0 ≤ h0.size) (K : Kon Z h0 w κ) (u0 u1 u2 u3 u4 u5 : Int32) (b1 : Addr) (b2 : Addr) (k1 : ClassId) :
    OM l Z (⟨"java/lang/Math", "min", "(II)I"⟩ : MethodName) jdk_29_method_69_code 2 (some .int) [] ({ frames := 0, cells := 0, slots := 0, locals := 0 } : Room) #[(.int (0 : Int32)), (.int (3 : Int32))] h0 (OP (some (.int (0 : Int32))) n0 h0) := by
  refine MetFree.of_bodySF (Jvm.Free.JP.mathPlain rfl (by decide +kernel)) hisR ?_
  intro p e s m args below meth c s₁ Bd hml0 hP hK
  obtain ⟨rfl, hZ, hh⟩ := hP
  have hx := Bd.exec
  have hby := Bd.bytes
  have hml : c.maxLocals = 2 := hml0
  have hown : s.vm.findClass "java/lang/Math" = some m.cls := findClass_of_methodNamed Bd.named
  have hnm := (name_of_methodNamed Bd.named Bd.method).1
  have X0 : Stand p l e ({ frames := 0, cells := 0, slots := 0, locals := 0 } : Room) s m #[(.int (0 : Int32)), (.int (3 : Int32))] below meth c s₁ [] 0 0 := Stand.of_body Bd
  have e0 : s₁.heap = h0 := by rw [← hh, Bd.state]; rfl
  have N0 := Fr.nil n0
  have pre0 : ∀ t, Steps p.tables e below (s₁.setTop (mkF m 0 #[.val (.int (0 : Int32)), .val (.int (3 : Int32))] [])) t → Steps p.tables e below (s₁.setTop (entryFrame m #[(.int (0 : Int32)), (.int (3 : Int32))] 2)) t := fun t k => castTop (by first | rfl | simp [entryFrame, mkF, argsToLocals, Value.category]) k
  obtain ⟨fs, hr, hrun, hended, hW, hsame⟩ := X0.leave (v := (some (.int (0 : Int32)))) (fun h => by rw [Bd.returns] at h; cases h)
  refine ⟨_, _, pre0 _ ?_, hrun, hended, _, _, rfl, ?_, ⟨_, rfl⟩, hW, hsame.mono (by decide) (by decide)⟩
  · show Steps p.tables e below (s₁.setTop (mkF m 0 #[.val (.int (0 : Int32)), .val (.int (3 : Int32))] [])) _
    refine XS.iloadN X0.here hx rfl (hb hby d_jdk_29_method_69_code_0) rfl ?_
    show Steps p.tables e below (s₁.setTop (mkF m 1 #[.val (.int (0 : Int32)), .val (.int (3 : Int32))] [(.int (0 : Int32))])) _
    refine XS.iloadN X0.here hx rfl (hb hby d_jdk_29_method_69_code_1) rfl ?_
    show Steps p.tables e below (s₁.setTop (mkF m 2 #[.val (.int (0 : Int32)), .val (.int (3 : Int32))] [(.int (3 : Int32)), (.int (0 : Int32))])) _
    refine XS.icmpNo X0.here hx rfl (hb hby d_jdk_29_method_69_code_2) rfl (flt (by decide : ¬ ((3 : Int32) < (0 : Int32)))).2.2.1 ?_
    show Steps p.tables e below (s₁.setTop (mkF m 5 #[.val (.int (0 : Int32)), .val (.int (3 : Int32))] [])) _
    refine XS.iloadN X0.here hx rfl (hb hby d_jdk_29_method_69_code_5) rfl ?_
    show Steps p.tables e below (s₁.setTop (mkF m 6 #[.val (.int (0 : Int32)), .val (.int (3 : Int32))] [(.int (0 : Int32))])) _
    refine XS.goto X0.here hx rfl (pc0 := 6) (pc' := 10) rfl (hb hby d_jdk_29_method_69_code_6) (by decide) (by decide) ?_
    show Steps p.tables e below (s₁.setTop (mkF m 10 #[.val (.int (0 : Int32)), .val (.int (3 : Int32))] [(.int (0 : Int32))])) _
    exact retI X0 hx Bd.returns (hb hby d_jdk_29_method_69_code_10) hr
  · exact ⟨rfl, N0, e0⟩
theorem d_jdk_65_method_123_code_28 : decode jdk_65_method_123_code 28 = .ok (.invokestatic 150, 3) := by decide +kernel
theorem d_jdk_65_method_123_code_31 : decode jdk_65_method_123_code 31 = .ok (.aload_n 2, 1) := by decide +kernel
theorem d_jdk_65_method_123_code_32 : decode jdk_65_method_123_code 32 = .ok (.areturn, 1) := by decide +kernel
def Q_rm_copyOf_6 (Z : State) (w : Nat → Addr) (κ : Nat → ClassId) (n0 : Nat) (u0 u1 u2 u3 u4 u5 : Int32) (b1 : Addr) (v : Option Value) (h : Heap) (L : List Loc) : Prop := ∃ b2 : Addr, ∃ k1 : ClassId, (v = (some (.ref b2))) ∧ (Fr n0 L) ∧ (n0 ≤ h.size) ∧ (Kon Z h w κ) ∧ (Exa Z h b1 "com/example/tight_tree/tighttree/Block") ∧ (Fld Z h b1 "com/example/tight_tree/tighttree/Block" "nodes" "[I" (.ref (w 0))) ∧ (Fld Z h b1 "com/example/tight_tree/tighttree/Block" "parts" "[Lcom/example/tight_tree/tighttree/Block;" (.ref (w 1))) ∧ (Fld Z h b1 "com/example/tight_tree/tighttree/Block" "placings" "[I" (.ref (w 0))) ∧ (Fld Z h b1 "com/example/tight_tree/tighttree/Block" "height" "I" (.int (0 : Int32))) ∧ (Fld Z h b1 "com/example/tight_tree/tighttree/Block" "width" "I" (.int (0 : Int32))) ∧ (Fld Z h b1 "com/example/tight_tree/tighttree/Block" "nodeCount" "I" (.int (0 : Int32))) ∧ (Fld Z h b1 "com/example/tight_tree/tighttree/Block" "runs" "Lcom/example/tight_tree/tighttree/Block$Run;" .null) ∧ (Arv Z h b2 k1 .int (3 : Int32) [(.int (0 : Int32)), (.int (0 : Int32)), (.int (0 : Int32))] (.int (0 : Int32))) ∧ (n0 ≤ b2) ∧ (b1 ≠ b2) ∧ (∀ i, i < 2 → w i ≠ b2)
theorem pn_java_util_Arrays : plainName "java/util/Arrays" = true := by first | (simp [plainName, overriddenIn]; done) | decide +kernel
set_option maxRecDepth 65536 in
set_option maxHeartbeats 40000000 in
theorem rm_copyOf_6 (l : Launch) (Z : State) (a0 : Array Value) (hw : ∀ d ∈ tables_1, d.before a0 Z = true) (w : Nat → Addr) (κ : Nat → ClassId) (h0 : Heap) (n0 : Nat) (Z0 : n0 ≤ h0.size) (K : Kon Z h0 w κ) (u0 u1 u2 u3 u4 u5 : Int32) (b1 : Addr) (fE_b1 : Exa Z h0 b1 "com/example/tight_tree/tighttree/Block") (fF_b1_com_example_tight_tree_tighttree_Block_nodes : Fld Z h0 b1 "com/example/tight_tree/tighttree/Block" "nodes" "[I" (.ref (w 0))) (fF_b1_com_example_tight_tree_tighttree_Block_parts : Fld Z h0 b1 "com/example/tight_tree/tighttree/Block" "parts" "[Lcom/example/tight_tree/tighttree/Block;" (.ref (w 1))) (fF_b1_com_example_tight_tree_tighttree_Block_placings : Fld Z h0 b1 "com/example/tight_tree/tighttree/Block" "placings" "[I" (.ref (w 0))) (fF_b1_com_example_tight_tree_tighttree_Block_height : Fld Z h0 b1 "com/example/tight_tree/tighttree/Block" "height" "I" (.int (0 : Int32))) (fF_b1_com_example_tight_tree_tighttree_Block_width : Fld Z h0 b1 "com/example/tight_tree/tighttree/Block" "width" "I" (.int (0 : Int32))) (fF_b1_com_example_tight_tree_tighttree_Block_nodeCount : Fld Z h0 b1 "com/example/tight_tree/tighttree/Block" "nodeCount" "I" (.int (0 : Int32))) (fF_b1_com_example_tight_tree_tighttree_Block_runs : Fld Z h0 b1 "com/example/tight_tree/tighttree/Block" "runs" "Lcom/example/tight_tree/tighttree/Block$Run;" .null) (fG_b1 : n0 ≤ b1) (fKN_b1 : ∀ i, i < 2 → w i ≠ b1) :
    OM l Z (⟨"java/util/Arrays", "copyOf", "([II)[I"⟩ : MethodName) jdk_65_method_123_code 3 (some (.array .int)) [] ({ frames := 1, cells := 1, slots := 3, locals := 18 } : Room) #[(.ref (w 0)), (.int (3 : Int32))] h0 (Q_rm_copyOf_6 Z w κ n0 u0 u1 u2 u3 u4 u5 b1) := by
  refine MetFree.of_bodySF (plainFor_of_name pn_java_util_Arrays) hisR ?_
  intro p e s m args below meth c s₁ Bd hml0 hP hK
  obtain ⟨rfl, hZ, hh⟩ := hP
  have hx := Bd.exec
  have hby := Bd.bytes
  have hml : c.maxLocals = 3 := hml0
  have hown : s.vm.findClass "java/util/Arrays" = some m.cls := findClass_of_methodNamed Bd.named
  have hnm := (name_of_methodNamed Bd.named Bd.method).1
  have X0 : Stand p l e ({ frames := 1, cells := 1, slots := 3, locals := 18 } : Room) s m #[(.ref (w 0)), (.int (3 : Int32))] below meth c s₁ [] 0 0 := Stand.of_body Bd
  have e0 : s₁.heap = h0 := by rw [← hh, Bd.state]; rfl
  have N0 := Fr.nil n0
  have pre0 : ∀ t, Steps p.tables e below (s₁.setTop (mkF m 0 #[.val (.ref (w 0)), .val (.int (3 : Int32)), .unset] [])) t → Steps p.tables e below (s₁.setTop (entryFrame m #[(.ref (w 0)), (.int (3 : Int32))] 3)) t := fun t k => castTop (by first | rfl | simp [entryFrame, mkF, argsToLocals, Value.category]) k
  obtain ⟨cl1, Ar1, qa1, Sz1, Nn1, Ha1, Ga1⟩ := id K.2.2.2.1
  obtain ⟨T2, h2, k1, X2, e2, E2, A2, st2⟩ := newP X0 hx hZ (hw _ (List.mem_of_getElem? (i := 43) rfl)) e0 (g := (mkF m 15 #[.val (.ref (w 0)), .val (.int (3 : Int32)), .unset] [(.int (3 : Int32))])) rfl (hb hby d_jdk_65_method_123_code_15) rfl (by decide) (cap := 3) (by decide) (by decide) (by decide) (by decide)
  obtain ⟨b2, g2⟩ : ∃ z, z = h0.size := ⟨_, rfl⟩
  rw [← g2] at A2 st2
  have hG2 : n0 ≤ b2 := Nat.le_trans Z0 (Nat.le_of_eq g2.symm)
  have hN2_0 : b1 ≠ b2 := by rw [g2]; exact Nat.ne_of_lt fE_b1.lt
  have hKN2 : ∀ i, i < 2 → w i ≠ b2 := fun i hi => by rw [g2]; exact Nat.ne_of_lt (K.lt i hi)
  have f2_fE_b1 := fE_b1.ext E2
  have f2_fF_b1_com_example_tight_tree_tighttree_Block_nodes := fF_b1_com_example_tight_tree_tighttree_Block_nodes.ext E2
  have f2_fF_b1_com_example_tight_tree_tighttree_Block_parts := fF_b1_com_example_tight_tree_tighttree_Block_parts.ext E2
  have f2_fF_b1_com_example_tight_tree_tighttree_Block_placings := fF_b1_com_example_tight_tree_tighttree_Block_placings.ext E2
  have f2_fF_b1_com_example_tight_tree_tighttree_Block_height := fF_b1_com_example_tight_tree_tighttree_Block_height.ext E2
  have f2_fF_b1_com_example_tight_tree_tighttree_Block_width := fF_b1_com_example_tight_tree_tighttree_Block_width.ext E2
  have f2_fF_b1_com_example_tight_tree_tighttree_Block_nodeCount := fF_b1_com_example_tight_tree_tighttree_Block_nodeCount.ext E2
  have f2_fF_b1_com_example_tight_tree_tighttree_Block_runs := fF_b1_com_example_tight_tree_tighttree_Block_runs.ext E2
  have K2 := K.ext E2
  have Z2 : n0 ≤ h2.size := Nat.le_trans Z0 E2.1
  have V2 : Arv Z h2 b2 k1 .int (3 : Int32) [(.int (0 : Int32)), (.int (0 : Int32)), (.int (0 : Int32))] (.int (0 : Int32)) := (Arv.new A2 (by decide)).pad (pad_rep [] (.int (0 : Int32)) 3)
  obtain ⟨cl3, Ar3, qa3, Sz3, Nn3, Ha3, Ga3⟩ := id K2.2.2.2.1
  obtain ⟨_, _, ⟨T4, L4, kk4, n4⟩, -, X4, ⟨Lc4, hQ4, l4, y4, z4⟩, st4⟩ := Jvm.LawKit.callS X2 hx (y := (⟨"java/lang/Math", "min", "(II)I"⟩ : MethodName)) hown (mvT hZ (hw _ (List.mem_of_getElem? (i := 44) rfl))) (mvT hZ (hw _ (List.mem_of_getElem? (i := 45) rfl))) (mvT hZ (hw _ (List.mem_of_getElem? (i := 37) rfl))) (mvT hZ (hw _ (List.mem_of_getElem? (i := 46) rfl))) (by decide) (backOf (W := 4) (rm_min_5 l Z a0 hw w κ h2 n0 Z2 K2 u0 u1 u2 u3 u4 u5 b1 b2 k1) hZ (hw _ (List.mem_of_getElem? (i := 46) rfl)) (hw _ (List.mem_of_getElem? (i := 37) rfl)) (by decide) (by decide)) (g := (mkF m 25 #[.val (.ref (w 0)), .val (.int (3 : Int32)), .val (.ref b2)] [(.int (3 : Int32)), (.int (0 : Int32)), (.int (0 : Int32)), (.ref b2), (.int (0 : Int32)), (.ref (w 0))])) rfl (by rw [hml]; rfl) (argsL := [(.int (0 : Int32)), (.int (3 : Int32))]) (rest := [(.int (0 : Int32)), (.ref b2), (.int (0 : Int32)), (.ref (w 0))]) (lenOf pd_28II29I rfl) rfl (by show 2 * 0 + _ ≤ _; exact Nat.le_of_eq rfl) (hb hby d_jdk_65_method_123_code_25) (fun _ _ => ⟨rfl, e2, (by decide : 1 + 0 ≤ _), (by decide : 3 + 0 ≤ _)⟩)
  dsimp only [Pt.U, Pt.locs, Pt.cells, Pt.slots] at X4 l4 y4 z4 st4 hQ4
  subst l4 y4 z4
  obtain ⟨rfl, N4q, e4⟩ := hQ4
  have N4 := Fr.app N0 N4q
  obtain ⟨T5, h5, L5, X5, e5, N5, Kp5, V5, st5⟩ := cpA X4 hx hZ hown (hw _ (List.mem_of_getElem? (i := 47) rfl)) (hw _ (List.mem_of_getElem? (i := 50) rfl)) (hw _ (List.mem_of_getElem? (i := 48) rfl)) (hw _ (List.mem_of_getElem? (i := 49) rfl)) e4 K2.2.2.2.1 V2 (Or.inl ⟨rfl, rfl⟩) (sp := (0 : Int32)) (dp := (0 : Int32)) (nn := (0 : Int32)) (us := []) (by decide) (by decide) (by decide) (by decide) (by decide) rfl (by decide) N4 hG2 (g := (mkF m 28 #[.val (.ref (w 0)), .val (.int (3 : Int32)), .val (.ref b2)] [(.int (0 : Int32)), (.int (0 : Int32)), (.ref b2), (.int (0 : Int32)), (.ref (w 0))])) rfl (by rw [hml]; rfl) (rest := []) rfl (hb hby d_jdk_65_method_123_code_28) (by decide) (W := 0) (by show 2 * 0 + _ ≤ _; exact Nat.le_of_eq rfl) (by decide)
  have f5_fE_b1 : Exa Z h5 b1 "com/example/tight_tree/tighttree/Block" := f2_fE_b1.keep Kp5
  have f5_fF_b1_com_example_tight_tree_tighttree_Block_nodes : Fld Z h5 b1 "com/example/tight_tree/tighttree/Block" "nodes" "[I" (.ref (w 0)) := f2_fF_b1_com_example_tight_tree_tighttree_Block_nodes.keep Kp5 (ninS hN2_0 nin0)
  have f5_fF_b1_com_example_tight_tree_tighttree_Block_parts : Fld Z h5 b1 "com/example/tight_tree/tighttree/Block" "parts" "[Lcom/example/tight_tree/tighttree/Block;" (.ref (w 1)) := f2_fF_b1_com_example_tight_tree_tighttree_Block_parts.keep Kp5 (ninS hN2_0 nin0)
  have f5_fF_b1_com_example_tight_tree_tighttree_Block_placings : Fld Z h5 b1 "com/example/tight_tree/tighttree/Block" "placings" "[I" (.ref (w 0)) := f2_fF_b1_com_example_tight_tree_tighttree_Block_placings.keep Kp5 (ninS hN2_0 nin0)
  have f5_fF_b1_com_example_tight_tree_tighttree_Block_height : Fld Z h5 b1 "com/example/tight_tree/tighttree/Block" "height" "I" (.int (0 : Int32)) := f2_fF_b1_com_example_tight_tree_tighttree_Block_height.keep Kp5 (ninS hN2_0 nin0)
  have f5_fF_b1_com_example_tight_tree_tighttree_Block_width : Fld Z h5 b1 "com/example/tight_tree/tighttree/Block" "width" "I" (.int (0 : Int32)) := f2_fF_b1_com_example_tight_tree_tighttree_Block_width.keep Kp5 (ninS hN2_0 nin0)
  have f5_fF_b1_com_example_tight_tree_tighttree_Block_nodeCount : Fld Z h5 b1 "com/example/tight_tree/tighttree/Block" "nodeCount" "I" (.int (0 : Int32)) := f2_fF_b1_com_example_tight_tree_tighttree_Block_nodeCount.keep Kp5 (ninS hN2_0 nin0)
  have f5_fF_b1_com_example_tight_tree_tighttree_Block_runs : Fld Z h5 b1 "com/example/tight_tree/tighttree/Block" "runs" "Lcom/example/tight_tree/tighttree/Block$Run;" .null := f2_fF_b1_com_example_tight_tree_tighttree_Block_runs.keep Kp5 (ninS hN2_0 nin0)
  have f5_fA_b2 : Arv Z h5 b2 k1 .int (3 : Int32) [(.int (0 : Int32)), (.int (0 : Int32)), (.int (0 : Int32))] (.int (0 : Int32)) := V5
  have K5 := Kon.keep K2 Kp5 V2 hKN2
  have Z5 : n0 ≤ h5.size := Nat.le_trans Z2 Kp5.1
  obtain ⟨fs, hr, hrun, hended, hW, hsame⟩ := X5.leave (v := (some (.ref b2))) (fun h => by rw [Bd.returns] at h; cases h)
  refine ⟨_, _, pre0 _ ?_, hrun, hended, _, _, rfl, ?_, ⟨_, rfl⟩, hW, hsame.mono (by decide) (by decide)⟩
  · show Steps p.tables e below (s₁.setTop (mkF m 0 #[.val (.ref (w 0)), .val (.int (3 : Int32)), .unset] [])) _
    refine XS.iloadN X0.here hx rfl (hb hby d_jdk_65_method_123_code_0) rfl ?_
    show Steps p.tables e below (s₁.setTop (mkF m 1 #[.val (.ref (w 0)), .val (.int (3 : Int32)), .unset] [(.int (3 : Int32))])) _
    refine XS.aloadN X0.here hx rfl (hb hby d_jdk_65_method_123_code_1) rfl rfl ?_
    show Steps p.tables e below (s₁.setTop (mkF m 2 #[.val (.ref (w 0)), .val (.int (3 : Int32)), .unset] [(.ref (w 0)), (.int (3 : Int32))])) _
    refine X0.arraylength hx (by rw [e0]; exact Ar1.1) (State.isArrayOf_alike hZ.alike Ar1.2.1) (g := (mkF m 2 #[.val (.ref (w 0)), .val (.int (3 : Int32)), .unset] [(.ref (w 0)), (.int (3 : Int32))])) rfl rfl (hb hby d_jdk_65_method_123_code_2) _ ?_
    rw [len_of Sz1 Nn1]
    show Steps p.tables e below (s₁.setTop (mkF m 3 #[.val (.ref (w 0)), .val (.int (3 : Int32)), .unset] [(.int (0 : Int32)), (.int (3 : Int32))])) _
    refine XS.icmpYes X0.here hx rfl (pc0 := 3) (pc' := 14) rfl (hb hby d_jdk_65_method_123_code_3) rfl (feq (by decide : ¬ ((3 : Int32) = (0 : Int32)))).2 (by decide) (by decide) ?_
    show Steps p.tables e below (s₁.setTop (mkF m 14 #[.val (.ref (w 0)), .val (.int (3 : Int32)), .unset] [])) _
    refine XS.iloadN X0.here hx rfl (hb hby d_jdk_65_method_123_code_14) rfl ?_
    show Steps p.tables e below (s₁.setTop (mkF m 15 #[.val (.ref (w 0)), .val (.int (3 : Int32)), .unset] [(.int (3 : Int32))])) _
    refine st2 _ ?_
    show Steps p.tables e below (T2.setTop (mkF m 17 #[.val (.ref (w 0)), .val (.int (3 : Int32)), .unset] [(.ref b2)])) _
    refine XS.astoreN X2.here hx rfl (hb hby d_jdk_65_method_123_code_17) rfl rfl (l' := #[.val (.ref (w 0)), .val (.int (3 : Int32)), .val (.ref b2)]) rfl ?_
    show Steps p.tables e below (T2.setTop (mkF m 18 #[.val (.ref (w 0)), .val (.int (3 : Int32)), .val (.ref b2)] [])) _
    refine XS.aloadN X2.here hx rfl (hb hby d_jdk_65_method_123_code_18) rfl rfl ?_
    show Steps p.tables e below (T2.setTop (mkF m 19 #[.val (.ref (w 0)), .val (.int (3 : Int32)), .val (.ref b2)] [(.ref (w 0))])) _
    refine XS.iconst X2.here hx rfl (hb hby d_jdk_65_method_123_code_19) ?_
    show Steps p.tables e below (T2.setTop (mkF m 20 #[.val (.ref (w 0)), .val (.int (3 : Int32)), .val (.ref b2)] [(.int (0 : Int32)), (.ref (w 0))])) _
    refine XS.aloadN X2.here hx rfl (hb hby d_jdk_65_method_123_code_20) rfl rfl ?_
    show Steps p.tables e below (T2.setTop (mkF m 21 #[.val (.ref (w 0)), .val (.int (3 : Int32)), .val (.ref b2)] [(.ref b2), (.int (0 : Int32)), (.ref (w 0))])) _
    refine XS.iconst X2.here hx rfl (hb hby d_jdk_65_method_123_code_21) ?_
    show Steps p.tables e below (T2.setTop (mkF m 22 #[.val (.ref (w 0)), .val (.int (3 : Int32)), .val (.ref b2)] [(.int (0 : Int32)), (.ref b2), (.int (0 : Int32)), (.ref (w 0))])) _
    refine XS.aloadN X2.here hx rfl (hb hby d_jdk_65_method_123_code_22) rfl rfl ?_
    show Steps p.tables e below (T2.setTop (mkF m 23 #[.val (.ref (w 0)), .val (.int (3 : Int32)), .val (.ref b2)] [(.ref (w 0)), (.int (0 : Int32)), (.ref b2), (.int (0 : Int32)), (.ref (w 0))])) _
    refine X2.arraylength hx (by rw [e2]; exact Ar3.1) (State.isArrayOf_alike hZ.alike Ar3.2.1) (g := (mkF m 23 #[.val (.ref (w 0)), .val (.int (3 : Int32)), .val (.ref b2)] [(.ref (w 0)), (.int (0 : Int32)), (.ref b2), (.int (0 : Int32)), (.ref (w 0))])) rfl rfl (hb hby d_jdk_65_method_123_code_23) _ ?_
    rw [len_of Sz3 Nn3]
    show Steps p.tables e below (T2.setTop (mkF m 24 #[.val (.ref (w 0)), .val (.int (3 : Int32)), .val (.ref b2)] [(.int (0 : Int32)), (.int (0 : Int32)), (.ref b2), (.int (0 : Int32)), (.ref (w 0))])) _
    refine XS.iloadN X2.here hx rfl (hb hby d_jdk_65_method_123_code_24) rfl ?_
    show Steps p.tables e below (T2.setTop (mkF m 25 #[.val (.ref (w 0)), .val (.int (3 : Int32)), .val (.ref b2)] [(.int (3 : Int32)), (.int (0 : Int32)), (.int (0 : Int32)), (.ref b2), (.int (0 : Int32)), (.ref (w 0))])) _
    refine st4 _ ?_
    show Steps p.tables e below (T4.setTop (mkF m 28 #[.val (.ref (w 0)), .val (.int (3 : Int32)), .val (.ref b2)] [(.int (0 : Int32)), (.int (0 : Int32)), (.ref b2), (.int (0 : Int32)), (.ref (w 0))])) _
    refine st5 _ ?_
    show Steps p.tables e below (T5.setTop (mkF m 31 #[.val (.ref (w 0)), .val (.int (3 : Int32)), .val (.ref b2)] [])) _
    refine XS.aloadN X5.here hx rfl (hb hby d_jdk_65_method_123_code_31) rfl rfl ?_
    show Steps p.tables e below (T5.setTop (mkF m 32 #[.val (.ref (w 0)), .val (.int (3 : Int32)), .val (.ref b2)] [(.ref b2)])) _
    jvm_step X5.here [X5.here.top, hx, (hb hby d_jdk_65_method_123_code_32), X5.method', Bd.returns, Value.isRef, FieldType.isReference]
    first | (intro acts; rw [hr _ acts rfl rfl rfl]) | rw [hr _ _ rfl rfl rfl]
    exact Steps.refl _
  · show Q_rm_copyOf_6 Z w κ n0 u0 u1 u2 u3 u4 u5 b1 _ T5.heap _
    rw [e5]
    exact ⟨b2, k1, rfl, N5, Z5, K5, f5_fE_b1, f5_fF_b1_com_example_tight_tree_tighttree_Block_nodes, f5_fF_b1_com_example_tight_tree_tighttree_Block_parts, f5_fF_b1_com_example_tight_tree_tighttree_Block_placings, f5_fF_b1_com_example_tight_tree_tighttree_Block_height, f5_fF_b1_com_example_tight_tree_tighttree_Block_width, f5_fF_b1_com_example_tight_tree_tighttree_Block_nodeCount, f5_fF_b1_com_example_tight_tree_tighttree_Block_runs, f5_fA_b2, hG2, hN2_0, hKN2⟩
theorem pd_285bII295bI : parseMethodDescriptor "([II)[I" = some ⟨[(.array .int), .int], some (.array .int)⟩ := by decide +kernel
theorem d_prog_7_method_4_code_33 : decode prog_7_method_4_code 33 = .ok (.putfield 13, 3) := by decide +kernel
theorem d_prog_7_method_4_code_36 : decode prog_7_method_4_code 36 = .ok (.aload_n 0, 1) := by decide +kernel
theorem d_prog_7_method_4_code_37 : decode prog_7_method_4_code 37 = .ok (.getfield 13, 3) := by decide +kernel
theorem d_prog_7_method_4_code_40 : decode prog_7_method_4_code 40 = .ok (.iconst 3, 1) := by decide +kernel
theorem d_prog_7_method_4_code_41 : decode prog_7_method_4_code 41 = .ok (.aload_n 0, 1) := by decide +kernel
theorem d_prog_7_method_4_code_42 : decode prog_7_method_4_code 42 = .ok (.getfield 38, 3) := by decide +kernel
theorem d_prog_7_method_4_code_45 : decode prog_7_method_4_code 45 = .ok (.imul, 1) := by decide +kernel
theorem d_prog_7_method_4_code_46 : decode prog_7_method_4_code 46 = .ok (.iload_n 1, 1) := by decide +kernel
theorem d_prog_7_method_4_code_47 : decode prog_7_method_4_code 47 = .ok (.iastore, 1) := by decide +kernel
theorem d_prog_7_method_4_code_48 : decode prog_7_method_4_code 48 = .ok (.aload_n 0, 1) := by decide +kernel
theorem d_prog_7_method_4_code_49 : decode prog_7_method_4_code 49 = .ok (.getfield 13, 3) := by decide +kernel
theorem d_prog_7_method_4_code_52 : decode prog_7_method_4_code 52 = .ok (.iconst 3, 1) := by decide +kernel
theorem d_prog_7_method_4_code_53 : decode prog_7_method_4_code 53 = .ok (.aload_n 0, 1) := by decide +kernel
theorem d_prog_7_method_4_code_54 : decode prog_7_method_4_code 54 = .ok (.getfield 38, 3) := by decide +kernel
theorem d_prog_7_method_4_code_57 : decode prog_7_method_4_code 57 = .ok (.imul, 1) := by decide +kernel
theorem d_prog_7_method_4_code_58 : decode prog_7_method_4_code 58 = .ok (.iconst 1, 1) := by decide +kernel
theorem d_prog_7_method_4_code_59 : decode prog_7_method_4_code 59 = .ok (.iadd, 1) := by decide +kernel
theorem d_prog_7_method_4_code_60 : decode prog_7_method_4_code 60 = .ok (.iload_n 2, 1) := by decide +kernel
theorem d_prog_7_method_4_code_61 : decode prog_7_method_4_code 61 = .ok (.iastore, 1) := by decide +kernel
theorem d_prog_7_method_4_code_62 : decode prog_7_method_4_code 62 = .ok (.aload_n 0, 1) := by decide +kernel
theorem d_prog_7_method_4_code_63 : decode prog_7_method_4_code 63 = .ok (.getfield 13, 3) := by decide +kernel
theorem d_prog_7_method_4_code_66 : decode prog_7_method_4_code 66 = .ok (.iconst 3, 1) := by decide +kernel
theorem d_prog_7_method_4_code_67 : decode prog_7_method_4_code 67 = .ok (.aload_n 0, 1) := by decide +kernel
theorem d_prog_7_method_4_code_68 : decode prog_7_method_4_code 68 = .ok (.getfield 38, 3) := by decide +kernel
theorem d_prog_7_method_4_code_71 : decode prog_7_method_4_code 71 = .ok (.imul, 1) := by decide +kernel
theorem d_prog_7_method_4_code_72 : decode prog_7_method_4_code 72 = .ok (.iconst 2, 1) := by decide +kernel
theorem d_prog_7_method_4_code_73 : decode prog_7_method_4_code 73 = .ok (.iadd, 1) := by decide +kernel
theorem d_prog_7_method_4_code_74 : decode prog_7_method_4_code 74 = .ok (.iload_n 3, 1) := by decide +kernel
theorem d_prog_7_method_4_code_75 : decode prog_7_method_4_code 75 = .ok (.iastore, 1) := by decide +kernel
theorem d_prog_7_method_4_code_76 : decode prog_7_method_4_code 76 = .ok (.aload_n 0, 1) := by decide +kernel
theorem d_prog_7_method_4_code_77 : decode prog_7_method_4_code 77 = .ok (.dup, 1) := by decide +kernel
theorem d_prog_7_method_4_code_78 : decode prog_7_method_4_code 78 = .ok (.getfield 38, 3) := by decide +kernel
theorem d_prog_7_method_4_code_81 : decode prog_7_method_4_code 81 = .ok (.iconst 1, 1) := by decide +kernel
theorem d_prog_7_method_4_code_82 : decode prog_7_method_4_code 82 = .ok (.iadd, 1) := by decide +kernel
theorem d_prog_7_method_4_code_83 : decode prog_7_method_4_code 83 = .ok (.putfield 38, 3) := by decide +kernel
theorem d_prog_7_method_4_code_86 : decode prog_7_method_4_code 86 = .ok (.aload_n 0, 1) := by decide +kernel
theorem d_prog_7_method_4_code_87 : decode prog_7_method_4_code 87 = .ok (.iload_n 2, 1) := by decide +kernel
theorem d_prog_7_method_4_code_88 : decode prog_7_method_4_code 88 = .ok (.iconst 1, 1) := by decide +kernel
theorem d_prog_7_method_4_code_89 : decode prog_7_method_4_code 89 = .ok (.iadd, 1) := by decide +kernel
theorem d_prog_7_method_4_code_90 : decode prog_7_method_4_code 90 = .ok (.iload_n 3, 1) := by decide +kernel
theorem d_prog_7_method_4_code_91 : decode prog_7_method_4_code 91 = .ok (.iconst 1, 1) := by decide +kernel
theorem d_prog_7_method_4_code_92 : decode prog_7_method_4_code 92 = .ok (.iadd, 1) := by decide +kernel
theorem d_prog_7_method_4_code_93 : decode prog_7_method_4_code 93 = .ok (.invokevirtual 61, 3) := by decide +kernel
theorem d_prog_7_method_15_code_0 : decode prog_7_method_15_code 0 = .ok (.aload_n 0, 1) := by decide +kernel
theorem d_prog_7_method_15_code_1 : decode prog_7_method_15_code 1 = .ok (.aload_n 0, 1) := by decide +kernel
theorem d_prog_7_method_15_code_2 : decode prog_7_method_15_code 2 = .ok (.getfield 103, 3) := by decide +kernel
theorem d_prog_7_method_15_code_5 : decode prog_7_method_15_code 5 = .ok (.iload_n 1, 1) := by decide +kernel
theorem d_prog_7_method_15_code_6 : decode prog_7_method_15_code 6 = .ok (.invokestatic 55, 3) := by decide +kernel
theorem d_prog_7_method_15_code_9 : decode prog_7_method_15_code 9 = .ok (.putfield 103, 3) := by decide +kernel
theorem d_prog_7_method_15_code_12 : decode prog_7_method_15_code 12 = .ok (.aload_n 0, 1) := by decide +kernel
theorem d_prog_7_method_15_code_13 : decode prog_7_method_15_code 13 = .ok (.aload_n 0, 1) := by decide +kernel
theorem d_prog_7_method_15_code_14 : decode prog_7_method_15_code 14 = .ok (.getfield 101, 3) := by decide +kernel
theorem d_prog_7_method_15_code_17 : decode prog_7_method_15_code 17 = .ok (.iload_n 2, 1) := by decide +kernel
theorem d_prog_7_method_15_code_18 : decode prog_7_method_15_code 18 = .ok (.invokestatic 55, 3) := by decide +kernel
theorem d_prog_7_method_15_code_21 : decode prog_7_method_15_code 21 = .ok (.putfield 101, 3) := by decide +kernel
theorem d_prog_7_method_15_code_24 : decode prog_7_method_15_code 24 = .ok (.return_, 1) := by decide +kernel
def Q_rm_grow_7 (Z : State) (w : Nat → Addr) (κ : Nat → ClassId) (n0 : Nat) (u0 u1 u2 u3 u4 u5 : Int32) (b1 : Addr) (b2 : Addr) (k1 : ClassId) (v : Option Value) (h : Heap) (L : List Loc) : Prop := (v = none) ∧ (Fr n0 L) ∧ (n0 ≤ h.size) ∧ (Kon Z h w κ) ∧ (Exa Z h b1 "com/example/tight_tree/tighttree/Block") ∧ (Fld Z h b1 "com/example/tight_tree/tighttree/Block" "nodes" "[I" (.ref b2)) ∧ (Fld Z h b1 "com/example/tight_tree/tighttree/Block" "parts" "[Lcom/example/tight_tree/tighttree/Block;" (.ref (w 1))) ∧ (Fld Z h b1 "com/example/tight_tree/tighttree/Block" "placings" "[I" (.ref (w 0))) ∧ (Fld Z h b1 "com/example/tight_tree/tighttree/Block" "height" "I" (.int (imax (0 : Int32) (u1 + (1 : Int32))))) ∧ (Fld Z h b1 "com/example/tight_tree/tighttree/Block" "width" "I" (.int (imax (0 : Int32) (u0 + (1 : Int32))))) ∧ (Fld Z h b1 "com/example/tight_tree/tighttree/Block" "nodeCount" "I" (.int (1 : Int32))) ∧ (Fld Z h b1 "com/example/tight_tree/tighttree/Block" "runs" "Lcom/example/tight_tree/tighttree/Block$Run;" .null) ∧ (Arv Z h b2 k1 .int (3 : Int32) [(.int (0 : Int32)), (.int u0), (.int u1)] (.int (0 : Int32)))
set_option maxRecDepth 65536 in
set_option maxHeartbeats 40000000 in
theorem rm_grow_7 (l : Launch) (Z : State) (a0 : Array Value) (hw : ∀ d ∈ tables_1, d.before a0 Z = true) (w : Nat → Addr) (κ : Nat → ClassId) (h0 : Heap) (n0 : Nat) (Z0 : n0 ≤ h0.size) (K : Kon Z h0 w κ) (u0 u1 u2 u3 u4 u5 : Int32) (b1 : Addr) (b2 : Addr) (k1 : ClassId) (fE_b1 : Exa Z h0 b1 "com/example/tight_tree/tighttree/Block") (fF_b1_com_example_tight_tree_tighttree_Block_nodes : Fld Z h0 b1 "com/example/tight_tree/tighttree/Block" "nodes" "[I" (.ref b2)) (fF_b1_com_example_tight_tree_tighttree_Block_parts : Fld Z h0 b1 "com/example/tight_tree/tighttree/Block" "parts" "[Lcom/example/tight_tree/tighttree/Block;" (.ref (w 1))) (fF_b1_com_example_tight_tree_tighttree_Block_placings : Fld Z h0 b1 "com/example/tight_tree/tighttree/Block" "placings" "[I" (.ref (w 0))) (fF_b1_com_example_tight_tree_tighttree_Block_height : Fld Z h0 b1 "com/example/tight_tree/tighttree/Block" "height" "I" (.int (0 : Int32))) (fF_b1_com_example_tight_tree_tighttree_Block_width : Fld Z h0 b1 "com/example/tight_tree/tighttree/Block" "width" "I" (.int (0 : Int32))) (fF_b1_com_example_tight_tree_tighttree_Block_nodeCount : Fld Z h0 b1 "com/example/tight_tree/tighttree/Block" "nodeCount" "I" (.int (1 : Int32))) (fF_b1_com_example_tight_tree_tighttree_Block_runs : Fld Z h0 b1 "com/example/tight_tree/tighttree/Block" "runs" "Lcom/example/tight_tree/tighttree/Block$Run;" .null) (fA_b2 : Arv Z h0 b2 k1 .int (3 : Int32) [(.int (0 : Int32)), (.int u0), (.int u1)] (.int (0 : Int32))) (fG_b1 : n0 ≤ b1) (fKN_b1 : ∀ i, i < 2 → w i ≠ b1) (fG_b2 : n0 ≤ b2) (fN_b1_b2 : b1 ≠ b2) (fKN_b2 : ∀ i, i < 2 → w i ≠ b2) :
    OM l Z (⟨"com/example/tight_tree/tighttree/Block", "grow", "(II)V"⟩ : MethodName) prog_7_method_15_code 3 none [] ({ frames := 1, cells := 0, slots := 0, locals := 14 } : Room) #[(.ref b1), (.int (u0 + (1 : Int32))), (.int (u1 + (1 : Int32)))] h0 (Q_rm_grow_7 Z w κ n0 u0 u1 u2 u3 u4 u5 b1 b2 k1) := by
  refine MetFree.of_bodySF (plainFor_of_name pn_com_example_tight_tree_tighttree_Block) hisR ?_
  intro p e s m args below meth c s₁ Bd hml0 hP hK
  obtain ⟨rfl, hZ, hh⟩ := hP
  have hx := Bd.exec
  have hby := Bd.bytes
  have hml : c.maxLocals = 3 := hml0
  have hown : s.vm.findClass "com/example/tight_tree/tighttree/Block" = some m.cls := findClass_of_methodNamed Bd.named
  have hnm := (name_of_methodNamed Bd.named Bd.method).1
  have X0 : Stand p l e ({ frames := 1, cells := 0, slots := 0, locals := 14 } : Room) s m #[(.ref b1), (.int (u0 + (1 : Int32))), (.int (u1 + (1 : Int32)))] below meth c s₁ [] 0 0 := Stand.of_body Bd
  have e0 : s₁.heap = h0 := by rw [← hh, Bd.state]; rfl
  have N0 := Fr.nil n0
  have pre0 : ∀ t, Steps p.tables e below (s₁.setTop (mkF m 0 #[.val (.ref b1), .val (.int (u0 + (1 : Int32))), .val (.int (u1 + (1 : Int32)))] [])) t → Steps p.tables e below (s₁.setTop (entryFrame m #[(.ref b1), (.int (u0 + (1 : Int32))), (.int (u1 + (1 : Int32)))] 3)) t := fun t k => castTop (by first | rfl | simp [entryFrame, mkF, argsToLocals, Value.category]) k
  obtain ⟨T1, X1, e1, st1⟩ := getF X0 hx hZ hown (host := "") (Or.inl (hw _ (List.mem_of_getElem? (i := 26) rfl))) Via.refl e0 fF_b1_com_example_tight_tree_tighttree_Block_width (g := (mkF m 2 #[.val (.ref b1), .val (.int (u0 + (1 : Int32))), .val (.int (u1 + (1 : Int32)))] [(.ref b1), (.ref b1)])) rfl rfl (hb hby d_prog_7_method_15_code_2)
  obtain ⟨_, _, ⟨T2, L2, kk2, n2⟩, -, X2, ⟨Lc2, hQ2, l2, y2, z2⟩, st2⟩ := Jvm.LawKit.callS X1 hx (y := (⟨"java/lang/Math", "max", "(II)I"⟩ : MethodName)) hown (mvT hZ (hw _ (List.mem_of_getElem? (i := 35) rfl))) (mvT hZ (hw _ (List.mem_of_getElem? (i := 36) rfl))) (mvT hZ (hw _ (List.mem_of_getElem? (i := 37) rfl))) (mvT hZ (hw _ (List.mem_of_getElem? (i := 38) rfl))) (by decide) (backOf (W := 1) (rm_max l Z a0 hw w κ h0 n0 Z0 K (0 : Int32) (u0 + (1 : Int32))) hZ (hw _ (List.mem_of_getElem? (i := 38) rfl)) (hw _ (List.mem_of_getElem? (i := 37) rfl)) (by decide) (by decide)) (g := (mkF m 6 #[.val (.ref b1), .val (.int (u0 + (1 : Int32))), .val (.int (u1 + (1 : Int32)))] [(.int (u0 + (1 : Int32))), (.int (0 : Int32)), (.ref b1)])) rfl (by rw [hml]; rfl) (argsL := [(.int (0 : Int32)), (.int (u0 + (1 : Int32)))]) (rest := [(.ref b1)]) (lenOf pd_28II29I rfl) rfl (by show 2 * 0 + _ ≤ _; exact Nat.le_of_eq rfl) (hb hby d_prog_7_method_15_code_6) (fun _ _ => ⟨rfl, e1, (by decide : 0 + 0 ≤ _), (by decide : 0 + 0 ≤ _)⟩)
  dsimp only [Pt.U, Pt.locs, Pt.cells, Pt.slots] at X2 l2 y2 z2 st2 hQ2
  subst l2 y2 z2
  obtain ⟨rfl, N2q, e2⟩ := hQ2
  have N2 := Fr.app N0 N2q
  obtain ⟨T3, h3, X3, e3, W3, st3⟩ := putF X2 hx hZ hown (host := "") (Or.inl (hw _ (List.mem_of_getElem? (i := 26) rfl))) Via.refl e2 fF_b1_com_example_tight_tree_tighttree_Block_width fE_b1 (Or.inl (hw _ (List.mem_of_getElem? (i := 27) rfl))) (hw _ (List.mem_of_getElem? (i := 1) rfl)) (ty := .int) (by decide) rfl rfl (g := (mkF m 9 #[.val (.ref b1), .val (.int (u0 + (1 : Int32))), .val (.int (u1 + (1 : Int32)))] [(.int (imax (0 : Int32) (u0 + (1 : Int32)))), (.ref b1)])) rfl rfl (hb hby d_prog_7_method_15_code_9)
  have f3_fE_b1 : Exa Z h3 b1 "com/example/tight_tree/tighttree/Block" := fE_b1.wr W3
  have f3_fF_b1_com_example_tight_tree_tighttree_Block_nodes : Fld Z h3 b1 "com/example/tight_tree/tighttree/Block" "nodes" "[I" (.ref b2) := fF_b1_com_example_tight_tree_tighttree_Block_nodes.other W3 (Or.inr (slot_ne (Or.inl (hw _ (List.mem_of_getElem? (i := 12) rfl))) (Or.inl (hw _ (List.mem_of_getElem? (i := 27) rfl))) (by decide) (t := (.array .int)) (t' := .int) (by decide) (by decide)))
  have f3_fF_b1_com_example_tight_tree_tighttree_Block_parts : Fld Z h3 b1 "com/example/tight_tree/tighttree/Block" "parts" "[Lcom/example/tight_tree/tighttree/Block;" (.ref (w 1)) := fF_b1_com_example_tight_tree_tighttree_Block_parts.other W3 (Or.inr (slot_ne (Or.inl (hw _ (List.mem_of_getElem? (i := 16) rfl))) (Or.inl (hw _ (List.mem_of_getElem? (i := 27) rfl))) (by decide) (t := (.array (.object "com/example/tight_tree/tighttree/Block"))) (t' := .int) (by decide) (by decide)))
  have f3_fF_b1_com_example_tight_tree_tighttree_Block_placings : Fld Z h3 b1 "com/example/tight_tree/tighttree/Block" "placings" "[I" (.ref (w 0)) := fF_b1_com_example_tight_tree_tighttree_Block_placings.other W3 (Or.inr (slot_ne (Or.inl (hw _ (List.mem_of_getElem? (i := 18) rfl))) (Or.inl (hw _ (List.mem_of_getElem? (i := 27) rfl))) (by decide) (t := (.array .int)) (t' := .int) (by decide) (by decide)))
  have f3_fF_b1_com_example_tight_tree_tighttree_Block_height : Fld Z h3 b1 "com/example/tight_tree/tighttree/Block" "height" "I" (.int (0 : Int32)) := fF_b1_com_example_tight_tree_tighttree_Block_height.other W3 (Or.inr (slot_ne (Or.inl (hw _ (List.mem_of_getElem? (i := 25) rfl))) (Or.inl (hw _ (List.mem_of_getElem? (i := 27) rfl))) (by decide) (t := .int) (t' := .int) (by decide) (by decide)))
  have f3_fF_b1_com_example_tight_tree_tighttree_Block_width : Fld Z h3 b1 "com/example/tight_tree/tighttree/Block" "width" "I" (.int (imax (0 : Int32) (u0 + (1 : Int32)))) := fF_b1_com_example_tight_tree_tighttree_Block_width.same W3
  have f3_fF_b1_com_example_tight_tree_tighttree_Block_nodeCount : Fld Z h3 b1 "com/example/tight_tree/tighttree/Block" "nodeCount" "I" (.int (1 : Int32)) := fF_b1_com_example_tight_tree_tighttree_Block_nodeCount.other W3 (Or.inr (slot_ne (Or.inl (hw _ (List.mem_of_getElem? (i := 34) rfl))) (Or.inl (hw _ (List.mem_of_getElem? (i := 27) rfl))) (by decide) (t := .int) (t' := .int) (by decide) (by decide)))
  have f3_fF_b1_com_example_tight_tree_tighttree_Block_runs : Fld Z h3 b1 "com/example/tight_tree/tighttree/Block" "runs" "Lcom/example/tight_tree/tighttree/Block$Run;" .null := fF_b1_com_example_tight_tree_tighttree_Block_runs.other W3 (Or.inr (slot_ne (Or.inl (hw _ (List.mem_of_getElem? (i := 64) rfl))) (Or.inl (hw _ (List.mem_of_getElem? (i := 27) rfl))) (by decide) (t := (.object "com/example/tight_tree/tighttree/Block$Run")) (t' := .int) (by decide) (by decide)))
  have f3_fA_b2 : Arv Z h3 b2 k1 .int (3 : Int32) [(.int (0 : Int32)), (.int u0), (.int u1)] (.int (0 : Int32)) := fA_b2.other W3 (Ne.symm fN_b1_b2)
  have K3 := K.wr W3 fKN_b1
  have Z3 : n0 ≤ h3.size := Nat.le_trans Z0 (Nat.le_of_eq W3.size.symm)
  have N3 := Fr.snoc X3 N2 fG_b1
  obtain ⟨T4, X4, e4, st4⟩ := getF X3 hx hZ hown (host := "") (Or.inl (hw _ (List.mem_of_getElem? (i := 24) rfl))) Via.refl e3 f3_fF_b1_com_example_tight_tree_tighttree_Block_height (g := (mkF m 14 #[.val (.ref b1), .val (.int (u0 + (1 : Int32))), .val (.int (u1 + (1 : Int32)))] [(.ref b1), (.ref b1)])) rfl rfl (hb hby d_prog_7_method_15_code_14)
  obtain ⟨_, _, ⟨T5, L5, kk5, n5⟩, -, X5, ⟨Lc5, hQ5, l5, y5, z5⟩, st5⟩ := Jvm.LawKit.callS X4 hx (y := (⟨"java/lang/Math", "max", "(II)I"⟩ : MethodName)) hown (mvT hZ (hw _ (List.mem_of_getElem? (i := 35) rfl))) (mvT hZ (hw _ (List.mem_of_getElem? (i := 36) rfl))) (mvT hZ (hw _ (List.mem_of_getElem? (i := 37) rfl))) (mvT hZ (hw _ (List.mem_of_getElem? (i := 38) rfl))) (by decide) (backOf (W := 1) (rm_max l Z a0 hw w κ h3 n0 Z3 K3 (0 : Int32) (u1 + (1 : Int32))) hZ (hw _ (List.mem_of_getElem? (i := 38) rfl)) (hw _ (List.mem_of_getElem? (i := 37) rfl)) (by decide) (by decide)) (g := (mkF m 18 #[.val (.ref b1), .val (.int (u0 + (1 : Int32))), .val (.int (u1 + (1 : Int32)))] [(.int (u1 + (1 : Int32))), (.int (0 : Int32)), (.ref b1)])) rfl (by rw [hml]; rfl) (argsL := [(.int (0 : Int32)), (.int (u1 + (1 : Int32)))]) (rest := [(.ref b1)]) (lenOf pd_28II29I rfl) rfl (by show 2 * 0 + _ ≤ _; exact Nat.le_of_eq rfl) (hb hby d_prog_7_method_15_code_18) (fun _ _ => ⟨rfl, e4, (by decide : 0 + 0 ≤ _), (by decide : 0 + 0 ≤ _)⟩)
  dsimp only [Pt.U, Pt.locs, Pt.cells, Pt.slots] at X5 l5 y5 z5 st5 hQ5
  subst l5 y5 z5
  obtain ⟨rfl, N5q, e5⟩ := hQ5
  have N5 := Fr.app N3 N5q
  obtain ⟨T6, h6, X6, e6, W6, st6⟩ := putF X5 hx hZ hown (host := "") (Or.inl (hw _ (List.mem_of_getElem? (i := 24) rfl))) Via.refl e5 f3_fF_b1_com_example_tight_tree_tighttree_Block_height f3_fE_b1 (Or.inl (hw _ (List.mem_of_getElem? (i := 25) rfl))) (hw _ (List.mem_of_getElem? (i := 1) rfl)) (ty := .int) (by decide) rfl rfl (g := (mkF m 21 #[.val (.ref b1), .val (.int (u0 + (1 : Int32))), .val (.int (u1 + (1 : Int32)))] [(.int (imax (0 : Int32) (u1 + (1 : Int32)))), (.ref b1)])) rfl rfl (hb hby d_prog_7_method_15_code_21)
  have f6_fE_b1 : Exa Z h6 b1 "com/example/tight_tree/tighttree/Block" := f3_fE_b1.wr W6
  have f6_fF_b1_com_example_tight_tree_tighttree_Block_nodes : Fld Z h6 b1 "com/example/tight_tree/tighttree/Block" "nodes" "[I" (.ref b2) := f3_fF_b1_com_example_tight_tree_tighttree_Block_nodes.other W6 (Or.inr (slot_ne (Or.inl (hw _ (List.mem_of_getElem? (i := 12) rfl))) (Or.inl (hw _ (List.mem_of_getElem? (i := 25) rfl))) (by decide) (t := (.array .int)) (t' := .int) (by decide) (by decide)))
  have f6_fF_b1_com_example_tight_tree_tighttree_Block_parts : Fld Z h6 b1 "com/example/tight_tree/tighttree/Block" "parts" "[Lcom/example/tight_tree/tighttree/Block;" (.ref (w 1)) := f3_fF_b1_com_example_tight_tree_tighttree_Block_parts.other W6 (Or.inr (slot_ne (Or.inl (hw _ (List.mem_of_getElem? (i := 16) rfl))) (Or.inl (hw _ (List.mem_of_getElem? (i := 25) rfl))) (by decide) (t := (.array (.object "com/example/tight_tree/tighttree/Block"))) (t' := .int) (by decide) (by decide)))
  have f6_fF_b1_com_example_tight_tree_tighttree_Block_placings : Fld Z h6 b1 "com/example/tight_tree/tighttree/Block" "placings" "[I" (.ref (w 0)) := f3_fF_b1_com_example_tight_tree_tighttree_Block_placings.other W6 (Or.inr (slot_ne (Or.inl (hw _ (List.mem_of_getElem? (i := 18) rfl))) (Or.inl (hw _ (List.mem_of_getElem? (i := 25) rfl))) (by decide) (t := (.array .int)) (t' := .int) (by decide) (by decide)))
  have f6_fF_b1_com_example_tight_tree_tighttree_Block_height : Fld Z h6 b1 "com/example/tight_tree/tighttree/Block" "height" "I" (.int (imax (0 : Int32) (u1 + (1 : Int32)))) := f3_fF_b1_com_example_tight_tree_tighttree_Block_height.same W6
  have f6_fF_b1_com_example_tight_tree_tighttree_Block_width : Fld Z h6 b1 "com/example/tight_tree/tighttree/Block" "width" "I" (.int (imax (0 : Int32) (u0 + (1 : Int32)))) := f3_fF_b1_com_example_tight_tree_tighttree_Block_width.other W6 (Or.inr (slot_ne (Or.inl (hw _ (List.mem_of_getElem? (i := 27) rfl))) (Or.inl (hw _ (List.mem_of_getElem? (i := 25) rfl))) (by decide) (t := .int) (t' := .int) (by decide) (by decide)))
  have f6_fF_b1_com_example_tight_tree_tighttree_Block_nodeCount : Fld Z h6 b1 "com/example/tight_tree/tighttree/Block" "nodeCount" "I" (.int (1 : Int32)) := f3_fF_b1_com_example_tight_tree_tighttree_Block_nodeCount.other W6 (Or.inr (slot_ne (Or.inl (hw _ (List.mem_of_getElem? (i := 34) rfl))) (Or.inl (hw _ (List.mem_of_getElem? (i := 25) rfl))) (by decide) (t := .int) (t' := .int) (by decide) (by decide)))
  have f6_fF_b1_com_example_tight_tree_tighttree_Block_runs : Fld Z h6 b1 "com/example/tight_tree/tighttree/Block" "runs" "Lcom/example/tight_tree/tighttree/Block$Run;" .null := f3_fF_b1_com_example_tight_tree_tighttree_Block_runs.other W6 (Or.inr (slot_ne (Or.inl (hw _ (List.mem_of_getElem? (i := 64) rfl))) (Or.inl (hw _ (List.mem_of_getElem? (i := 25) rfl))) (by decide) (t := (.object "com/example/tight_tree/tighttree/Block$Run")) (t' := .int) (by decide) (by decide)))
  have f6_fA_b2 : Arv Z h6 b2 k1 .int (3 : Int32) [(.int (0 : Int32)), (.int u0), (.int u1)] (.int (0 : Int32)) := f3_fA_b2.other W6 (Ne.symm fN_b1_b2)
  have K6 := K3.wr W6 fKN_b1
  have Z6 : n0 ≤ h6.size := Nat.le_trans Z3 (Nat.le_of_eq W6.size.symm)
  have N6 := Fr.snoc X6 N5 fG_b1
  obtain ⟨fs, hr, hrun, hended, hW, hsame⟩ := X6.leave (v := none) (fun _ => rfl)
  refine ⟨_, _, pre0 _ ?_, hrun, hended, _, _, rfl, ?_, ⟨_, rfl⟩, hW, hsame.mono (by decide) (by decide)⟩
  · show Steps p.tables e below (s₁.setTop (mkF m 0 #[.val (.ref b1), .val (.int (u0 + (1 : Int32))), .val (.int (u1 + (1 : Int32)))] [])) _
    refine XS.aloadN X0.here hx rfl (hb hby d_prog_7_method_15_code_0) rfl rfl ?_
    show Steps p.tables e below (s₁.setTop (mkF m 1 #[.val (.ref b1), .val (.int (u0 + (1 : Int32))), .val (.int (u1 + (1 : Int32)))] [(.ref b1)])) _
    refine XS.aloadN X0.here hx rfl (hb hby d_prog_7_method_15_code_1) rfl rfl ?_
    show Steps p.tables e below (s₁.setTop (mkF m 2 #[.val (.ref b1), .val (.int (u0 + (1 : Int32))), .val (.int (u1 + (1 : Int32)))] [(.ref b1), (.ref b1)])) _
    refine st1 _ ?_
    show Steps p.tables e below (T1.setTop (mkF m 5 #[.val (.ref b1), .val (.int (u0 + (1 : Int32))), .val (.int (u1 + (1 : Int32)))] [(.int (0 : Int32)), (.ref b1)])) _
    refine XS.iloadN X1.here hx rfl (hb hby d_prog_7_method_15_code_5) rfl ?_
    show Steps p.tables e below (T1.setTop (mkF m 6 #[.val (.ref b1), .val (.int (u0 + (1 : Int32))), .val (.int (u1 + (1 : Int32)))] [(.int (u0 + (1 : Int32))), (.int (0 : Int32)), (.ref b1)])) _
    refine st2 _ ?_
    show Steps p.tables e below (T2.setTop (mkF m 9 #[.val (.ref b1), .val (.int (u0 + (1 : Int32))), .val (.int (u1 + (1 : Int32)))] [(.int (imax (0 : Int32) (u0 + (1 : Int32)))), (.ref b1)])) _
    refine st3 _ ?_
    show Steps p.tables e below (T3.setTop (mkF m 12 #[.val (.ref b1), .val (.int (u0 + (1 : Int32))), .val (.int (u1 + (1 : Int32)))] [])) _
    refine XS.aloadN X3.here hx rfl (hb hby d_prog_7_method_15_code_12) rfl rfl ?_
    show Steps p.tables e below (T3.setTop (mkF m 13 #[.val (.ref b1), .val (.int (u0 + (1 : Int32))), .val (.int (u1 + (1 : Int32)))] [(.ref b1)])) _
    refine XS.aloadN X3.here hx rfl (hb hby d_prog_7_method_15_code_13) rfl rfl ?_
    show Steps p.tables e below (T3.setTop (mkF m 14 #[.val (.ref b1), .val (.int (u0 + (1 : Int32))), .val (.int (u1 + (1 : Int32)))] [(.ref b1), (.ref b1)])) _
    refine st4 _ ?_
    show Steps p.tables e below (T4.setTop (mkF m 17 #[.val (.ref b1), .val (.int (u0 + (1 : Int32))), .val (.int (u1 + (1 : Int32)))] [(.int (0 : Int32)), (.ref b1)])) _
    refine XS.iloadN X4.here hx rfl (hb hby d_prog_7_method_15_code_17) rfl ?_
    show Steps p.tables e below (T4.setTop (mkF m 18 #[.val (.ref b1), .val (.int (u0 + (1 : Int32))), .val (.int (u1 + (1 : Int32)))] [(.int (u1 + (1 : Int32))), (.int (0 : Int32)), (.ref b1)])) _
    refine st5 _ ?_
    show Steps p.tables e below (T5.setTop (mkF m 21 #[.val (.ref b1), .val (.int (u0 + (1 : Int32))), .val (.int (u1 + (1 : Int32)))] [(.int (imax (0 : Int32) (u1 + (1 : Int32)))), (.ref b1)])) _
    refine st6 _ ?_
    show Steps p.tables e below (T6.setTop (mkF m 24 #[.val (.ref b1), .val (.int (u0 + (1 : Int32))), .val (.int (u1 + (1 : Int32)))] [])) _
    exact X6.returnOut hx Bd.returns (hb hby d_prog_7_method_15_code_24) hr
  · show Q_rm_grow_7 Z w κ n0 u0 u1 u2 u3 u4 u5 b1 b2 k1 _ T6.heap _
    rw [e6]
    exact ⟨rfl, N6, Z6, K6, f6_fE_b1, f6_fF_b1_com_example_tight_tree_tighttree_Block_nodes, f6_fF_b1_com_example_tight_tree_tighttree_Block_parts, f6_fF_b1_com_example_tight_tree_tighttree_Block_placings, f6_fF_b1_com_example_tight_tree_tighttree_Block_height, f6_fF_b1_com_example_tight_tree_tighttree_Block_width, f6_fF_b1_com_example_tight_tree_tighttree_Block_nodeCount, f6_fF_b1_com_example_tight_tree_tighttree_Block_runs, f6_fA_b2⟩
theorem pd_28II29V : parseMethodDescriptor "(II)V" = some ⟨[.int, .int], none⟩ := by decide +kernel
theorem d_prog_7_method_4_code_96 : decode prog_7_method_4_code 96 = .ok (.return_, 1) := by decide +kernel
def Q_rm_addNode_8 (Z : State) (w : Nat → Addr) (κ : Nat → ClassId) (n0 : Nat) (u0 u1 u2 u3 u4 u5 : Int32) (b1 : Addr) (v : Option Value) (h : Heap) (L : List Loc) : Prop := ∃ b2 : Addr, ∃ k1 : ClassId, (v = none) ∧ (Fr n0 L) ∧ (n0 ≤ h.size) ∧ (Kon Z h w κ) ∧ (Exa Z h b1 "com/example/tight_tree/tighttree/Block") ∧ (Fld Z h b1 "com/example/tight_tree/tighttree/Block" "nodes" "[I" (.ref b2)) ∧ (Fld Z h b1 "com/example/tight_tree/tighttree/Block" "parts" "[Lcom/example/tight_tree/tighttree/Block;" (.ref (w 1))) ∧ (Fld Z h b1 "com/example/tight_tree/tighttree/Block" "placings" "[I" (.ref (w 0))) ∧ (Fld Z h b1 "com/example/tight_tree/tighttree/Block" "height" "I" (.int (imax (0 : Int32) (u1 + (1 : Int32))))) ∧ (Fld Z h b1 "com/example/tight_tree/tighttree/Block" "width" "I" (.int (imax (0 : Int32) (u0 + (1 : Int32))))) ∧ (Fld Z h b1 "com/example/tight_tree/tighttree/Block" "nodeCount" "I" (.int (1 : Int32))) ∧ (Fld Z h b1 "com/example/tight_tree/tighttree/Block" "runs" "Lcom/example/tight_tree/tighttree/Block$Run;" .null) ∧ (Arv Z h b2 k1 .int (3 : Int32) [(.int (0 : Int32)), (.int u0), (.int u1)] (.int (0 : Int32))) ∧ (n0 ≤ b2) ∧ (b1 ≠ b2) ∧ (∀ i, i < 2 → w i ≠ b2)
set_option maxRecDepth 65536 in
set_option maxHeartbeats 40000000 in
theorem rm_addNode_8 (l : Launch) (Z : State) (a0 : Array Value) (hw : ∀ d ∈ tables_1, d.before a0 Z = true) (w : Nat → Addr) (κ : Nat → ClassId) (h0 : Heap) (n0 : Nat) (Z0 : n0 ≤ h0.size) (K : Kon Z h0 w κ) (u0 u1 u2 u3 u4 u5 : Int32) (b1 : Addr) (fE_b1 : Exa Z h0 b1 "com/example/tight_tree/tighttree/Block") (fF_b1_com_example_tight_tree_tighttree_Block_nodes : Fld Z h0 b1 "com/example/tight_tree/tighttree/Block" "nodes" "[I" (.ref (w 0))) (fF_b1_com_example_tight_tree_tighttree_Block_parts : Fld Z h0 b1 "com/example/tight_tree/tighttree/Block" "parts" "[Lcom/example/tight_tree/tighttree/Block;" (.ref (w 1))) (fF_b1_com_example_tight_tree_tighttree_Block_placings : Fld Z h0 b1 "com/example/tight_tree/tighttree/Block" "placings" "[I" (.ref (w 0))) (fF_b1_com_example_tight_tree_tighttree_Block_height : Fld Z h0 b1 "com/example/tight_tree/tighttree/Block" "height" "I" (.int (0 : Int32))) (fF_b1_com_example_tight_tree_tighttree_Block_width : Fld Z h0 b1 "com/example/tight_tree/tighttree/Block" "width" "I" (.int (0 : Int32))) (fF_b1_com_example_tight_tree_tighttree_Block_nodeCount : Fld Z h0 b1 "com/example/tight_tree/tighttree/Block" "nodeCount" "I" (.int (0 : Int32))) (fF_b1_com_example_tight_tree_tighttree_Block_runs : Fld Z h0 b1 "com/example/tight_tree/tighttree/Block" "runs" "Lcom/example/tight_tree/tighttree/Block$Run;" .null) (fG_b1 : n0 ≤ b1) (fKN_b1 : ∀ i, i < 2 → w i ≠ b1) :
    OM l Z (⟨"com/example/tight_tree/tighttree/Block", "addNode", "(III)V"⟩ : MethodName) prog_7_method_4_code 4 none [] ({ frames := 2, cells := 1, slots := 3, locals := 33 } : Room) #[(.ref b1), (.int (0 : Int32)), (.int u0), (.int u1)] h0 (Q_rm_addNode_8 Z w κ n0 u0 u1 u2 u3 u4 u5 b1) := by
  refine MetFree.of_bodySF (plainFor_of_name pn_com_example_tight_tree_tighttree_Block) hisR ?_
  intro p e s m args below meth c s₁ Bd hml0 hP hK
  obtain ⟨rfl, hZ, hh⟩ := hP
  have hx := Bd.exec
  have hby := Bd.bytes
  have hml : c.maxLocals = 4 := hml0
  have hown : s.vm.findClass "com/example/tight_tree/tighttree/Block" = some m.cls := findClass_of_methodNamed Bd.named
  have hnm := (name_of_methodNamed Bd.named Bd.method).1
  have X0 : Stand p l e ({ frames := 2, cells := 1, slots := 3, locals := 33 } : Room) s m #[(.ref b1), (.int (0 : Int32)), (.int u0), (.int u1)] below meth c s₁ [] 0 0 := Stand.of_body Bd
  have e0 : s₁.heap = h0 := by rw [← hh, Bd.state]; rfl
  have N0 := Fr.nil n0
  have pre0 : ∀ t, Steps p.tables e below (s₁.setTop (mkF m 0 #[.val (.ref b1), .val (.int (0 : Int32)), .val (.int u0), .val (.int u1)] [])) t → Steps p.tables e below (s₁.setTop (entryFrame m #[(.ref b1), (.int (0 : Int32)), (.int u0), (.int u1)] 4)) t := fun t k => castTop (by first | rfl | simp [entryFrame, mkF, argsToLocals, Value.category]) k
  obtain ⟨T1, X1, e1, st1⟩ := getF X0 hx hZ hown (host := "") (Or.inl (hw _ (List.mem_of_getElem? (i := 33) rfl))) Via.refl e0 fF_b1_com_example_tight_tree_tighttree_Block_nodeCount (g := (mkF m 2 #[.val (.ref b1), .val (.int (0 : Int32)), .val (.int u0), .val (.int u1)] [(.ref b1), (.int (3 : Int32))])) rfl rfl (hb hby d_prog_7_method_4_code_2)
  obtain ⟨T2, X2, e2, st2⟩ := getF X1 hx hZ hown (host := "") (Or.inl (hw _ (List.mem_of_getElem? (i := 11) rfl))) Via.refl e1 fF_b1_com_example_tight_tree_tighttree_Block_nodes (g := (mkF m 7 #[.val (.ref b1), .val (.int (0 : Int32)), .val (.int u0), .val (.int u1)] [(.ref b1), (.int (0 : Int32))])) rfl rfl (hb hby d_prog_7_method_4_code_7)
  obtain ⟨cl3, Ar3, qa3, Sz3, Nn3, Ha3, Ga3⟩ := id K.2.2.2.1
  obtain ⟨T4, X4, e4, st4⟩ := getF X2 hx hZ hown (host := "") (Or.inl (hw _ (List.mem_of_getElem? (i := 11) rfl))) Via.refl e2 fF_b1_com_example_tight_tree_tighttree_Block_nodes (g := (mkF m 16 #[.val (.ref b1), .val (.int (0 : Int32)), .val (.int u0), .val (.int u1)] [(.ref b1), (.ref b1)])) rfl rfl (hb hby d_prog_7_method_4_code_16)
  obtain ⟨T5, X5, e5, st5⟩ := getF X4 hx hZ hown (host := "") (Or.inl (hw _ (List.mem_of_getElem? (i := 11) rfl))) Via.refl e4 fF_b1_com_example_tight_tree_tighttree_Block_nodes (g := (mkF m 22 #[.val (.ref b1), .val (.int (0 : Int32)), .val (.int u0), .val (.int u1)] [(.ref b1), (.int (2 : Int32)), (.int (3 : Int32)), (.ref (w 0)), (.ref b1)])) rfl rfl (hb hby d_prog_7_method_4_code_22)
  obtain ⟨cl6, Ar6, qa6, Sz6, Nn6, Ha6, Ga6⟩ := id K.2.2.2.1
  obtain ⟨_, _, ⟨T7, L7, kk7, n7⟩, -, X7, ⟨Lc7, hQ7, l7, y7, z7⟩, st7⟩ := Jvm.LawKit.callS X5 hx (y := (⟨"java/lang/Math", "max", "(II)I"⟩ : MethodName)) hown (mvT hZ (hw _ (List.mem_of_getElem? (i := 35) rfl))) (mvT hZ (hw _ (List.mem_of_getElem? (i := 36) rfl))) (mvT hZ (hw _ (List.mem_of_getElem? (i := 37) rfl))) (mvT hZ (hw _ (List.mem_of_getElem? (i := 38) rfl))) (by decide) (backOf (W := 2) (rm_max_4 l Z a0 hw w κ h0 n0 Z0 K u0 u1 u2 u3 u4 u5 b1) hZ (hw _ (List.mem_of_getElem? (i := 38) rfl)) (hw _ (List.mem_of_getElem? (i := 37) rfl)) (by decide) (by decide)) (g := (mkF m 27 #[.val (.ref b1), .val (.int (0 : Int32)), .val (.int u0), .val (.int u1)] [(.int (0 : Int32)), (.int (3 : Int32)), (.ref (w 0)), (.ref b1)])) rfl (by rw [hml]; rfl) (argsL := [(.int (3 : Int32)), (.int (0 : Int32))]) (rest := [(.ref (w 0)), (.ref b1)]) (lenOf pd_28II29I rfl) rfl (by show 2 * 0 + _ ≤ _; exact Nat.le_of_eq rfl) (hb hby d_prog_7_method_4_code_27) (fun _ _ => ⟨rfl, e5, (by decide : 0 + 0 ≤ _), (by decide : 0 + 0 ≤ _)⟩)
  dsimp only [Pt.U, Pt.locs, Pt.cells, Pt.slots] at X7 l7 y7 z7 st7 hQ7
  subst l7 y7 z7
  obtain ⟨rfl, N7q, e7⟩ := hQ7
  have N7 := Fr.app N0 N7q
  obtain ⟨_, _, ⟨T8, L8, kk8, n8⟩, -, X8, ⟨Lc8, hQ8, l8, y8, z8⟩, st8⟩ := Jvm.LawKit.callS X7 hx (y := (⟨"java/util/Arrays", "copyOf", "([II)[I"⟩ : MethodName)) hown (mvT hZ (hw _ (List.mem_of_getElem? (i := 39) rfl))) (mvT hZ (hw _ (List.mem_of_getElem? (i := 40) rfl))) (mvT hZ (hw _ (List.mem_of_getElem? (i := 41) rfl))) (mvT hZ (hw _ (List.mem_of_getElem? (i := 42) rfl))) (by decide) (backOf (W := 1) (rm_copyOf_6 l Z a0 hw w κ h0 n0 Z0 K u0 u1 u2 u3 u4 u5 b1 fE_b1 fF_b1_com_example_tight_tree_tighttree_Block_nodes fF_b1_com_example_tight_tree_tighttree_Block_parts fF_b1_com_example_tight_tree_tighttree_Block_placings fF_b1_com_example_tight_tree_tighttree_Block_height fF_b1_com_example_tight_tree_tighttree_Block_width fF_b1_com_example_tight_tree_tighttree_Block_nodeCount fF_b1_com_example_tight_tree_tighttree_Block_runs fG_b1 fKN_b1) hZ (hw _ (List.mem_of_getElem? (i := 42) rfl)) (hw _ (List.mem_of_getElem? (i := 41) rfl)) (by decide) (by decide)) (g := (mkF m 30 #[.val (.ref b1), .val (.int (0 : Int32)), .val (.int u0), .val (.int u1)] [(.int (3 : Int32)), (.ref (w 0)), (.ref b1)])) rfl (by rw [hml]; rfl) (argsL := [(.ref (w 0)), (.int (3 : Int32))]) (rest := [(.ref b1)]) (lenOf pd_285bII295bI rfl) rfl (by show 2 * 0 + _ ≤ _; exact Nat.le_of_eq rfl) (hb hby d_prog_7_method_4_code_30) (fun _ _ => ⟨rfl, e7, (by decide : 0 + 1 ≤ _), (by decide : 0 + 3 ≤ _)⟩)
  dsimp only [Pt.U, Pt.locs, Pt.cells, Pt.slots] at X8 l8 y8 z8 st8 hQ8
  subst l8 y8 z8
  obtain ⟨b2, k1, rfl, N8q, Z8, K8, f8_0, f8_1, f8_2, f8_3, f8_4, f8_5, f8_6, f8_7, f8_8, hi8_0, hi8_1, hi8_2⟩ := hQ8
  have N8 := Fr.app N7 N8q
  obtain ⟨T9, h9, X9, e9, W9, st9⟩ := putF X8 hx hZ hown (host := "") (Or.inl (hw _ (List.mem_of_getElem? (i := 11) rfl))) Via.refl rfl f8_1 f8_0 (Or.inl (hw _ (List.mem_of_getElem? (i := 12) rfl))) (hw _ (List.mem_of_getElem? (i := 1) rfl)) (ty := (.array .int)) (by decide) rfl rfl (g := (mkF m 33 #[.val (.ref b1), .val (.int (0 : Int32)), .val (.int u0), .val (.int u1)] [(.ref b2), (.ref b1)])) rfl rfl (hb hby d_prog_7_method_4_code_33)
  have f9_fE_b1 : Exa Z h9 b1 "com/example/tight_tree/tighttree/Block" := f8_0.wr W9
  have f9_fF_b1_com_example_tight_tree_tighttree_Block_nodes : Fld Z h9 b1 "com/example/tight_tree/tighttree/Block" "nodes" "[I" (.ref b2) := f8_1.same W9
  have f9_fF_b1_com_example_tight_tree_tighttree_Block_parts : Fld Z h9 b1 "com/example/tight_tree/tighttree/Block" "parts" "[Lcom/example/tight_tree/tighttree/Block;" (.ref (w 1)) := f8_2.other W9 (Or.inr (slot_ne (Or.inl (hw _ (List.mem_of_getElem? (i := 16) rfl))) (Or.inl (hw _ (List.mem_of_getElem? (i := 12) rfl))) (by decide) (t := (.array (.object "com/example/tight_tree/tighttree/Block"))) (t' := (.array .int)) (by decide) (by decide)))
  have f9_fF_b1_com_example_tight_tree_tighttree_Block_placings : Fld Z h9 b1 "com/example/tight_tree/tighttree/Block" "placings" "[I" (.ref (w 0)) := f8_3.other W9 (Or.inr (slot_ne (Or.inl (hw _ (List.mem_of_getElem? (i := 18) rfl))) (Or.inl (hw _ (List.mem_of_getElem? (i := 12) rfl))) (by decide) (t := (.array .int)) (t' := (.array .int)) (by decide) (by decide)))
  have f9_fF_b1_com_example_tight_tree_tighttree_Block_height : Fld Z h9 b1 "com/example/tight_tree/tighttree/Block" "height" "I" (.int (0 : Int32)) := f8_4.other W9 (Or.inr (slot_ne (Or.inl (hw _ (List.mem_of_getElem? (i := 25) rfl))) (Or.inl (hw _ (List.mem_of_getElem? (i := 12) rfl))) (by decide) (t := .int) (t' := (.array .int)) (by decide) (by decide)))
  have f9_fF_b1_com_example_tight_tree_tighttree_Block_width : Fld Z h9 b1 "com/example/tight_tree/tighttree/Block" "width" "I" (.int (0 : Int32)) := f8_5.other W9 (Or.inr (slot_ne (Or.inl (hw _ (List.mem_of_getElem? (i := 27) rfl))) (Or.inl (hw _ (List.mem_of_getElem? (i := 12) rfl))) (by decide) (t := .int) (t' := (.array .int)) (by decide) (by decide)))
  have f9_fF_b1_com_example_tight_tree_tighttree_Block_nodeCount : Fld Z h9 b1 "com/example/tight_tree/tighttree/Block" "nodeCount" "I" (.int (0 : Int32)) := f8_6.other W9 (Or.inr (slot_ne (Or.inl (hw _ (List.mem_of_getElem? (i := 34) rfl))) (Or.inl (hw _ (List.mem_of_getElem? (i := 12) rfl))) (by decide) (t := .int) (t' := (.array .int)) (by decide) (by decide)))
  have f9_fF_b1_com_example_tight_tree_tighttree_Block_runs : Fld Z h9 b1 "com/example/tight_tree/tighttree/Block" "runs" "Lcom/example/tight_tree/tighttree/Block$Run;" .null := f8_7.other W9 (Or.inr (slot_ne (Or.inl (hw _ (List.mem_of_getElem? (i := 64) rfl))) (Or.inl (hw _ (List.mem_of_getElem? (i := 12) rfl))) (by decide) (t := (.object "com/example/tight_tree/tighttree/Block$Run")) (t' := (.array .int)) (by decide) (by decide)))
  have f9_fA_b2 : Arv Z h9 b2 k1 .int (3 : Int32) [(.int (0 : Int32)), (.int (0 : Int32)), (.int (0 : Int32))] (.int (0 : Int32)) := f8_8.other W9 (Ne.symm hi8_1)
  have K9 := K8.wr W9 fKN_b1
  have Z9 : n0 ≤ h9.size := Nat.le_trans Z8 (Nat.le_of_eq W9.size.symm)
  have N9 := Fr.snoc X9 N8 fG_b1
  obtain ⟨T10, X10, e10, st10⟩ := getF X9 hx hZ hown (host := "") (Or.inl (hw _ (List.mem_of_getElem? (i := 11) rfl))) Via.refl e9 f9_fF_b1_com_example_tight_tree_tighttree_Block_nodes (g := (mkF m 37 #[.val (.ref b1), .val (.int (0 : Int32)), .val (.int u0), .val (.int u1)] [(.ref b1)])) rfl rfl (hb hby d_prog_7_method_4_code_37)
  obtain ⟨T11, X11, e11, st11⟩ := getF X10 hx hZ hown (host := "") (Or.inl (hw _ (List.mem_of_getElem? (i := 33) rfl))) Via.refl e10 f9_fF_b1_com_example_tight_tree_tighttree_Block_nodeCount (g := (mkF m 42 #[.val (.ref b1), .val (.int (0 : Int32)), .val (.int u0), .val (.int u1)] [(.ref b1), (.int (3 : Int32)), (.ref b2)])) rfl rfl (hb hby d_prog_7_method_4_code_42)
  obtain ⟨cl12, Ar12, qa12, Sz12, Nn12, Ha12, Ga12⟩ := id f9_fA_b2
  have hin12 : ¬ ((0 : Int32) < 0 ∨ cl12.slots.size ≤ ((0 : Int32)).toNatClampNeg) := inb_of Sz12 ⟨by decide, by decide⟩
  obtain ⟨T12, h12, X12, e12, W12, st12⟩ := stI X11 hx hZ e11 Ar12 (j := (0 : Int32)) hin12 (g := (mkF m 47 #[.val (.ref b1), .val (.int (0 : Int32)), .val (.int u0), .val (.int u1)] [(.int (0 : Int32)), (.int (0 : Int32)), (.ref b2)])) rfl rfl (hb hby d_prog_7_method_4_code_47)
  have f12_fE_b1 : Exa Z h12 b1 "com/example/tight_tree/tighttree/Block" := f9_fE_b1.wr W12
  have f12_fF_b1_com_example_tight_tree_tighttree_Block_nodes : Fld Z h12 b1 "com/example/tight_tree/tighttree/Block" "nodes" "[I" (.ref b2) := f9_fF_b1_com_example_tight_tree_tighttree_Block_nodes.other W12 (Or.inl hi8_1)
  have f12_fF_b1_com_example_tight_tree_tighttree_Block_parts : Fld Z h12 b1 "com/example/tight_tree/tighttree/Block" "parts" "[Lcom/example/tight_tree/tighttree/Block;" (.ref (w 1)) := f9_fF_b1_com_example_tight_tree_tighttree_Block_parts.other W12 (Or.inl hi8_1)
  have f12_fF_b1_com_example_tight_tree_tighttree_Block_placings : Fld Z h12 b1 "com/example/tight_tree/tighttree/Block" "placings" "[I" (.ref (w 0)) := f9_fF_b1_com_example_tight_tree_tighttree_Block_placings.other W12 (Or.inl hi8_1)
  have f12_fF_b1_com_example_tight_tree_tighttree_Block_height : Fld Z h12 b1 "com/example/tight_tree/tighttree/Block" "height" "I" (.int (0 : Int32)) := f9_fF_b1_com_example_tight_tree_tighttree_Block_height.other W12 (Or.inl hi8_1)
  have f12_fF_b1_com_example_tight_tree_tighttree_Block_width : Fld Z h12 b1 "com/example/tight_tree/tighttree/Block" "width" "I" (.int (0 : Int32)) := f9_fF_b1_com_example_tight_tree_tighttree_Block_width.other W12 (Or.inl hi8_1)
  have f12_fF_b1_com_example_tight_tree_tighttree_Block_nodeCount : Fld Z h12 b1 "com/example/tight_tree/tighttree/Block" "nodeCount" "I" (.int (0 : Int32)) := f9_fF_b1_com_example_tight_tree_tighttree_Block_nodeCount.other W12 (Or.inl hi8_1)
  have f12_fF_b1_com_example_tight_tree_tighttree_Block_runs : Fld Z h12 b1 "com/example/tight_tree/tighttree/Block" "runs" "Lcom/example/tight_tree/tighttree/Block$Run;" .null := f9_fF_b1_com_example_tight_tree_tighttree_Block_runs.other W12 (Or.inl hi8_1)
  have f12_fA_b2 : Arv Z h12 b2 k1 .int (3 : Int32) [(.int (0 : Int32)), (.int (0 : Int32)), (.int (0 : Int32))] (.int (0 : Int32)) := Arv.set Ar12 qa12 Sz12 Nn12 Ha12 Ga12 rfl W12 0 rfl (Nat.le_of_ble_eq_true rfl)
  have K12 := K9.wr W12 hi8_2
  have Z12 : n0 ≤ h12.size := Nat.le_trans Z9 (Nat.le_of_eq W12.size.symm)
  have N12 := Fr.snoc X12 N9 hi8_0
  obtain ⟨T13, X13, e13, st13⟩ := getF X12 hx hZ hown (host := "") (Or.inl (hw _ (List.mem_of_getElem? (i := 11) rfl))) Via.refl e12 f12_fF_b1_com_example_tight_tree_tighttree_Block_nodes (g := (mkF m 49 #[.val (.ref b1), .val (.int (0 : Int32)), .val (.int u0), .val (.int u1)] [(.ref b1)])) rfl rfl (hb hby d_prog_7_method_4_code_49)
  obtain ⟨T14, X14, e14, st14⟩ := getF X13 hx hZ hown (host := "") (Or.inl (hw _ (List.mem_of_getElem? (i := 33) rfl))) Via.refl e13 f12_fF_b1_com_example_tight_tree_tighttree_Block_nodeCount (g := (mkF m 54 #[.val (.ref b1), .val (.int (0 : Int32)), .val (.int u0), .val (.int u1)] [(.ref b1), (.int (3 : Int32)), (.ref b2)])) rfl rfl (hb hby d_prog_7_method_4_code_54)
  obtain ⟨cl15, Ar15, qa15, Sz15, Nn15, Ha15, Ga15⟩ := id f12_fA_b2
  have hin15 : ¬ ((1 : Int32) < 0 ∨ cl15.slots.size ≤ ((1 : Int32)).toNatClampNeg) := inb_of Sz15 ⟨by decide, by decide⟩
  obtain ⟨T15, h15, X15, e15, W15, st15⟩ := stI X14 hx hZ e14 Ar15 (j := (1 : Int32)) hin15 (g := (mkF m 61 #[.val (.ref b1), .val (.int (0 : Int32)), .val (.int u0), .val (.int u1)] [(.int u0), (.int (1 : Int32)), (.ref b2)])) rfl rfl (hb hby d_prog_7_method_4_code_61)
  have f15_fE_b1 : Exa Z h15 b1 "com/example/tight_tree/tighttree/Block" := f12_fE_b1.wr W15
  have f15_fF_b1_com_example_tight_tree_tighttree_Block_nodes : Fld Z h15 b1 "com/example/tight_tree/tighttree/Block" "nodes" "[I" (.ref b2) := f12_fF_b1_com_example_tight_tree_tighttree_Block_nodes.other W15 (Or.inl hi8_1)
  have f15_fF_b1_com_example_tight_tree_tighttree_Block_parts : Fld Z h15 b1 "com/example/tight_tree/tighttree/Block" "parts" "[Lcom/example/tight_tree/tighttree/Block;" (.ref (w 1)) := f12_fF_b1_com_example_tight_tree_tighttree_Block_parts.other W15 (Or.inl hi8_1)
  have f15_fF_b1_com_example_tight_tree_tighttree_Block_placings : Fld Z h15 b1 "com/example/tight_tree/tighttree/Block" "placings" "[I" (.ref (w 0)) := f12_fF_b1_com_example_tight_tree_tighttree_Block_placings.other W15 (Or.inl hi8_1)
  have f15_fF_b1_com_example_tight_tree_tighttree_Block_height : Fld Z h15 b1 "com/example/tight_tree/tighttree/Block" "height" "I" (.int (0 : Int32)) := f12_fF_b1_com_example_tight_tree_tighttree_Block_height.other W15 (Or.inl hi8_1)
  have f15_fF_b1_com_example_tight_tree_tighttree_Block_width : Fld Z h15 b1 "com/example/tight_tree/tighttree/Block" "width" "I" (.int (0 : Int32)) := f12_fF_b1_com_example_tight_tree_tighttree_Block_width.other W15 (Or.inl hi8_1)
  have f15_fF_b1_com_example_tight_tree_tighttree_Block_nodeCount : Fld Z h15 b1 "com/example/tight_tree/tighttree/Block" "nodeCount" "I" (.int (0 : Int32)) := f12_fF_b1_com_example_tight_tree_tighttree_Block_nodeCount.other W15 (Or.inl hi8_1)
  have f15_fF_b1_com_example_tight_tree_tighttree_Block_runs : Fld Z h15 b1 "com/example/tight_tree/tighttree/Block" "runs" "Lcom/example/tight_tree/tighttree/Block$Run;" .null := f12_fF_b1_com_example_tight_tree_tighttree_Block_runs.other W15 (Or.inl hi8_1)
  have f15_fA_b2 : Arv Z h15 b2 k1 .int (3 : Int32) [(.int (0 : Int32)), (.int u0), (.int (0 : Int32))] (.int (0 : Int32)) := Arv.set Ar15 qa15 Sz15 Nn15 Ha15 Ga15 rfl W15 1 rfl (Nat.le_of_ble_eq_true rfl)
  have K15 := K12.wr W15 hi8_2
  have Z15 : n0 ≤ h15.size := Nat.le_trans Z12 (Nat.le_of_eq W15.size.symm)
  have N15 := Fr.snoc X15 N12 hi8_0
  obtain ⟨T16, X16, e16, st16⟩ := getF X15 hx hZ hown (host := "") (Or.inl (hw _ (List.mem_of_getElem? (i := 11) rfl))) Via.refl e15 f15_fF_b1_com_example_tight_tree_tighttree_Block_nodes (g := (mkF m 63 #[.val (.ref b1), .val (.int (0 : Int32)), .val (.int u0), .val (.int u1)] [(.ref b1)])) rfl rfl (hb hby d_prog_7_method_4_code_63)
  obtain ⟨T17, X17, e17, st17⟩ := getF X16 hx hZ hown (host := "") (Or.inl (hw _ (List.mem_of_getElem? (i := 33) rfl))) Via.refl e16 f15_fF_b1_com_example_tight_tree_tighttree_Block_nodeCount (g := (mkF m 68 #[.val (.ref b1), .val (.int (0 : Int32)), .val (.int u0), .val (.int u1)] [(.ref b1), (.int (3 : Int32)), (.ref b2)])) rfl rfl (hb hby d_prog_7_method_4_code_68)
  obtain ⟨cl18, Ar18, qa18, Sz18, Nn18, Ha18, Ga18⟩ := id f15_fA_b2
  have hin18 : ¬ ((2 : Int32) < 0 ∨ cl18.slots.size ≤ ((2 : Int32)).toNatClampNeg) := inb_of Sz18 ⟨by decide, by decide⟩
  obtain ⟨T18, h18, X18, e18, W18, st18⟩ := stI X17 hx hZ e17 Ar18 (j := (2 : Int32)) hin18 (g := (mkF m 75 #[.val (.ref b1), .val (.int (0 : Int32)), .val (.int u0), .val (.int u1)] [(.int u1), (.int (2 : Int32)), (.ref b2)])) rfl rfl (hb hby d_prog_7_method_4_code_75)
  have f18_fE_b1 : Exa Z h18 b1 "com/example/tight_tree/tighttree/Block" := f15_fE_b1.wr W18
  have f18_fF_b1_com_example_tight_tree_tighttree_Block_nodes : Fld Z h18 b1 "com/example/tight_tree/tighttree/Block" "nodes" "[I" (.ref b2) := f15_fF_b1_com_example_tight_tree_tighttree_Block_nodes.other W18 (Or.inl hi8_1)
  have f18_fF_b1_com_example_tight_tree_tighttree_Block_parts : Fld Z h18 b1 "com/example/tight_tree/tighttree/Block" "parts" "[Lcom/example/tight_tree/tighttree/Block;" (.ref (w 1)) := f15_fF_b1_com_example_tight_tree_tighttree_Block_parts.other W18 (Or.inl hi8_1)
  have f18_fF_b1_com_example_tight_tree_tighttree_Block_placings : Fld Z h18 b1 "com/example/tight_tree/tighttree/Block" "placings" "[I" (.ref (w 0)) := f15_fF_b1_com_example_tight_tree_tighttree_Block_placings.other W18 (Or.inl hi8_1)
  have f18_fF_b1_com_example_tight_tree_tighttree_Block_height : Fld Z h18 b1 "com/example/tight_tree/tighttree/Block" "height" "I" (.int (0 : Int32)) := f15_fF_b1_com_example_tight_tree_tighttree_Block_height.other W18 (Or.inl hi8_1)
  have f18_fF_b1_com_example_tight_tree_tighttree_Block_width : Fld Z h18 b1 "com/example/tight_tree/tighttree/Block" "width" "I" (.int (0 : Int32)) := f15_fF_b1_com_example_tight_tree_tighttree_Block_width.other W18 (Or.inl hi8_1)
  have f18_fF_b1_com_example_tight_tree_tighttree_Block_nodeCount : Fld Z h18 b1 "com/example/tight_tree/tighttree/Block" "nodeCount" "I" (.int (0 : Int32)) := f15_fF_b1_com_example_tight_tree_tighttree_Block_nodeCount.other W18 (Or.inl hi8_1)
  have f18_fF_b1_com_example_tight_tree_tighttree_Block_runs : Fld Z h18 b1 "com/example/tight_tree/tighttree/Block" "runs" "Lcom/example/tight_tree/tighttree/Block$Run;" .null := f15_fF_b1_com_example_tight_tree_tighttree_Block_runs.other W18 (Or.inl hi8_1)
  have f18_fA_b2 : Arv Z h18 b2 k1 .int (3 : Int32) [(.int (0 : Int32)), (.int u0), (.int u1)] (.int (0 : Int32)) := Arv.set Ar18 qa18 Sz18 Nn18 Ha18 Ga18 rfl W18 2 rfl (Nat.le_of_ble_eq_true rfl)
  have K18 := K15.wr W18 hi8_2
  have Z18 : n0 ≤ h18.size := Nat.le_trans Z15 (Nat.le_of_eq W18.size.symm)
  have N18 := Fr.snoc X18 N15 hi8_0
  obtain ⟨T19, X19, e19, st19⟩ := getF X18 hx hZ hown (host := "") (Or.inl (hw _ (List.mem_of_getElem? (i := 33) rfl))) Via.refl e18 f18_fF_b1_com_example_tight_tree_tighttree_Block_nodeCount (g := (mkF m 78 #[.val (.ref b1), .val (.int (0 : Int32)), .val (.int u0), .val (.int u1)] [(.ref b1), (.ref b1)])) rfl rfl (hb hby d_prog_7_method_4_code_78)
  obtain ⟨T20, h20, X20, e20, W20, st20⟩ := putF X19 hx hZ hown (host := "") (Or.inl (hw _ (List.mem_of_getElem? (i := 33) rfl))) Via.refl e19 f18_fF_b1_com_example_tight_tree_tighttree_Block_nodeCount f18_fE_b1 (Or.inl (hw _ (List.mem_of_getElem? (i := 34) rfl))) (hw _ (List.mem_of_getElem? (i := 1) rfl)) (ty := .int) (by decide) rfl rfl (g := (mkF m 83 #[.val (.ref b1), .val (.int (0 : Int32)), .val (.int u0), .val (.int u1)] [(.int (1 : Int32)), (.ref b1)])) rfl rfl (hb hby d_prog_7_method_4_code_83)
  have f20_fE_b1 : Exa Z h20 b1 "com/example/tight_tree/tighttree/Block" := f18_fE_b1.wr W20
  have f20_fF_b1_com_example_tight_tree_tighttree_Block_nodes : Fld Z h20 b1 "com/example/tight_tree/tighttree/Block" "nodes" "[I" (.ref b2) := f18_fF_b1_com_example_tight_tree_tighttree_Block_nodes.other W20 (Or.inr (slot_ne (Or.inl (hw _ (List.mem_of_getElem? (i := 12) rfl))) (Or.inl (hw _ (List.mem_of_getElem? (i := 34) rfl))) (by decide) (t := (.array .int)) (t' := .int) (by decide) (by decide)))
  have f20_fF_b1_com_example_tight_tree_tighttree_Block_parts : Fld Z h20 b1 "com/example/tight_tree/tighttree/Block" "parts" "[Lcom/example/tight_tree/tighttree/Block;" (.ref (w 1)) := f18_fF_b1_com_example_tight_tree_tighttree_Block_parts.other W20 (Or.inr (slot_ne (Or.inl (hw _ (List.mem_of_getElem? (i := 16) rfl))) (Or.inl (hw _ (List.mem_of_getElem? (i := 34) rfl))) (by decide) (t := (.array (.object "com/example/tight_tree/tighttree/Block"))) (t' := .int) (by decide) (by decide)))
  have f20_fF_b1_com_example_tight_tree_tighttree_Block_placings : Fld Z h20 b1 "com/example/tight_tree/tighttree/Block" "placings" "[I" (.ref (w 0)) := f18_fF_b1_com_example_tight_tree_tighttree_Block_placings.other W20 (Or.inr (slot_ne (Or.inl (hw _ (List.mem_of_getElem? (i := 18) rfl))) (Or.inl (hw _ (List.mem_of_getElem? (i := 34) rfl))) (by decide) (t := (.array .int)) (t' := .int) (by decide) (by decide)))
  have f20_fF_b1_com_example_tight_tree_tighttree_Block_height : Fld Z h20 b1 "com/example/tight_tree/tighttree/Block" "height" "I" (.int (0 : Int32)) := f18_fF_b1_com_example_tight_tree_tighttree_Block_height.other W20 (Or.inr (slot_ne (Or.inl (hw _ (List.mem_of_getElem? (i := 25) rfl))) (Or.inl (hw _ (List.mem_of_getElem? (i := 34) rfl))) (by decide) (t := .int) (t' := .int) (by decide) (by decide)))
  have f20_fF_b1_com_example_tight_tree_tighttree_Block_width : Fld Z h20 b1 "com/example/tight_tree/tighttree/Block" "width" "I" (.int (0 : Int32)) := f18_fF_b1_com_example_tight_tree_tighttree_Block_width.other W20 (Or.inr (slot_ne (Or.inl (hw _ (List.mem_of_getElem? (i := 27) rfl))) (Or.inl (hw _ (List.mem_of_getElem? (i := 34) rfl))) (by decide) (t := .int) (t' := .int) (by decide) (by decide)))
  have f20_fF_b1_com_example_tight_tree_tighttree_Block_nodeCount : Fld Z h20 b1 "com/example/tight_tree/tighttree/Block" "nodeCount" "I" (.int (1 : Int32)) := f18_fF_b1_com_example_tight_tree_tighttree_Block_nodeCount.same W20
  have f20_fF_b1_com_example_tight_tree_tighttree_Block_runs : Fld Z h20 b1 "com/example/tight_tree/tighttree/Block" "runs" "Lcom/example/tight_tree/tighttree/Block$Run;" .null := f18_fF_b1_com_example_tight_tree_tighttree_Block_runs.other W20 (Or.inr (slot_ne (Or.inl (hw _ (List.mem_of_getElem? (i := 64) rfl))) (Or.inl (hw _ (List.mem_of_getElem? (i := 34) rfl))) (by decide) (t := (.object "com/example/tight_tree/tighttree/Block$Run")) (t' := .int) (by decide) (by decide)))
  have f20_fA_b2 : Arv Z h20 b2 k1 .int (3 : Int32) [(.int (0 : Int32)), (.int u0), (.int u1)] (.int (0 : Int32)) := f18_fA_b2.other W20 (Ne.symm hi8_1)
  have K20 := K18.wr W20 fKN_b1
  have Z20 : n0 ≤ h20.size := Nat.le_trans Z18 (Nat.le_of_eq W20.size.symm)
  have N20 := Fr.snoc X20 N18 fG_b1
  obtain ⟨cq21, qa21, qb21⟩ := f20_fE_b1.cell
  obtain ⟨_, _, ⟨T21, L21, kk21, n21⟩, -, X21, ⟨Lc21, hQ21, l21, y21, z21⟩, st21⟩ := X20.privateBack hx (y := (⟨"com/example/tight_tree/tighttree/Block", "grow", "(II)V"⟩ : MethodName)) hown (mvT hZ (hw _ (List.mem_of_getElem? (i := 51) rfl))) (mvT hZ (hw _ (List.mem_of_getElem? (i := 52) rfl))) (Jvm.Kit.selects_private (by decide) (mvT hZ (hw _ (List.mem_of_getElem? (i := 1) rfl))) (mvP hZ (hw _ (List.mem_of_getElem? (i := 53) rfl))) (mvT hZ (hw _ (List.mem_of_getElem? (i := 52) rfl)))) (Cond.privateMethod_at (mvP hZ (hw _ (List.mem_of_getElem? (i := 53) rfl)) (args := #[]))) (mvT hZ (hw _ (List.mem_of_getElem? (i := 54) rfl))) (by decide) (backOf (W := 0) (rm_grow_7 l Z a0 hw w κ h20 n0 Z20 K20 u0 u1 u2 u3 u4 u5 b1 b2 k1 f20_fE_b1 f20_fF_b1_com_example_tight_tree_tighttree_Block_nodes f20_fF_b1_com_example_tight_tree_tighttree_Block_parts f20_fF_b1_com_example_tight_tree_tighttree_Block_placings f20_fF_b1_com_example_tight_tree_tighttree_Block_height f20_fF_b1_com_example_tight_tree_tighttree_Block_width f20_fF_b1_com_example_tight_tree_tighttree_Block_nodeCount f20_fF_b1_com_example_tight_tree_tighttree_Block_runs f20_fA_b2 fG_b1 fKN_b1 hi8_0 hi8_1 hi8_2) hZ (hw _ (List.mem_of_getElem? (i := 54) rfl)) (hw _ (List.mem_of_getElem? (i := 2) rfl)) (by decide) (by decide)) (g := (mkF m 93 #[.val (.ref b1), .val (.int (0 : Int32)), .val (.int u0), .val (.int u1)] [(.int (u1 + (1 : Int32))), (.int (u0 + (1 : Int32))), (.ref b1)])) rfl (by rw [hml]; rfl) (Steps.refl _) (a := b1) (by rw [e20]; exact qa21) qb21 (argsL := [(.int (u0 + (1 : Int32))), (.int (u1 + (1 : Int32)))]) (rest := []) (lenOf pd_28II29V rfl) rfl (by show 2 * 0 + _ ≤ _; exact Nat.le_of_eq rfl) (hb hby d_prog_7_method_4_code_93) (fun _ _ => ⟨rfl, e20, (by decide : 1 + 0 ≤ _), (by decide : 3 + 0 ≤ _)⟩)
  dsimp only [Pt.U, Pt.locs, Pt.cells, Pt.slots] at X21 l21 y21 z21 st21 hQ21
  subst l21 y21 z21
  obtain ⟨rfl, N21q, Z21, K21, f21_0, f21_1, f21_2, f21_3, f21_4, f21_5, f21_6, f21_7, f21_8⟩ := hQ21
  have N21 := Fr.app N20 N21q
  obtain ⟨fs, hr, hrun, hended, hW, hsame⟩ := X21.leave (v := none) (fun _ => rfl)
  refine ⟨_, _, pre0 _ ?_, hrun, hended, _, _, rfl, ?_, ⟨_, rfl⟩, hW, hsame.mono (by decide) (by decide)⟩
  · show Steps p.tables e below (s₁.setTop (mkF m 0 #[.val (.ref b1), .val (.int (0 : Int32)), .val (.int u0), .val (.int u1)] [])) _
    refine XS.iconst X0.here hx rfl (hb hby d_prog_7_method_4_code_0) ?_
    show Steps p.tables e below (s₁.setTop (mkF m 1 #[.val (.ref b1), .val (.int (0 : Int32)), .val (.int u0), .val (.int u1)] [(.int (3 : Int32))])) _
    refine XS.aloadN X0.here hx rfl (hb hby d_prog_7_method_4_code_1) rfl rfl ?_
    show Steps p.tables e below (s₁.setTop (mkF m 2 #[.val (.ref b1), .val (.int (0 : Int32)), .val (.int u0), .val (.int u1)] [(.ref b1), (.int (3 : Int32))])) _
    refine st1 _ ?_
    show Steps p.tables e below (T1.setTop (mkF m 5 #[.val (.ref b1), .val (.int (0 : Int32)), .val (.int u0), .val (.int u1)] [(.int (0 : Int32)), (.int (3 : Int32))])) _
    refine XS.imul X1.here hx rfl (hb hby d_prog_7_method_4_code_5) rfl ?_
    show Steps p.tables e below (T1.setTop (mkF m 6 #[.val (.ref b1), .val (.int (0 : Int32)), .val (.int u0), .val (.int u1)] [(.int ((3 : Int32) * (0 : Int32)))])) _
    rw [(by decide : ((3 : Int32) * (0 : Int32)) = (0 : Int32))]
    show Steps p.tables e below (T1.setTop (mkF m 6 #[.val (.ref b1), .val (.int (0 : Int32)), .val (.int u0), .val (.int u1)] [(.int (0 : Int32))])) _
    refine XS.aloadN X1.here hx rfl (hb hby d_prog_7_method_4_code_6) rfl rfl ?_
    show Steps p.tables e below (T1.setTop (mkF m 7 #[.val (.ref b1), .val (.int (0 : Int32)), .val (.int u0), .val (.int u1)] [(.ref b1), (.int (0 : Int32))])) _
    refine st2 _ ?_
    show Steps p.tables e below (T2.setTop (mkF m 10 #[.val (.ref b1), .val (.int (0 : Int32)), .val (.int u0), .val (.int u1)] [(.ref (w 0)), (.int (0 : Int32))])) _
    refine X2.arraylength hx (by rw [e2]; exact Ar3.1) (State.isArrayOf_alike hZ.alike Ar3.2.1) (g := (mkF m 10 #[.val (.ref b1), .val (.int (0 : Int32)), .val (.int u0), .val (.int u1)] [(.ref (w 0)), (.int (0 : Int32))])) rfl rfl (hb hby d_prog_7_method_4_code_10) _ ?_
    rw [len_of Sz3 Nn3]
    show Steps p.tables e below (T2.setTop (mkF m 11 #[.val (.ref b1), .val (.int (0 : Int32)), .val (.int u0), .val (.int u1)] [(.int (0 : Int32)), (.int (0 : Int32))])) _
    refine XS.icmpNo X2.here hx rfl (hb hby d_prog_7_method_4_code_11) rfl (teq (by decide : (0 : Int32) = (0 : Int32))).2 ?_
    show Steps p.tables e below (T2.setTop (mkF m 14 #[.val (.ref b1), .val (.int (0 : Int32)), .val (.int u0), .val (.int u1)] [])) _
    refine XS.aloadN X2.here hx rfl (hb hby d_prog_7_method_4_code_14) rfl rfl ?_
    show Steps p.tables e below (T2.setTop (mkF m 15 #[.val (.ref b1), .val (.int (0 : Int32)), .val (.int u0), .val (.int u1)] [(.ref b1)])) _
    refine XS.aloadN X2.here hx rfl (hb hby d_prog_7_method_4_code_15) rfl rfl ?_
    show Steps p.tables e below (T2.setTop (mkF m 16 #[.val (.ref b1), .val (.int (0 : Int32)), .val (.int u0), .val (.int u1)] [(.ref b1), (.ref b1)])) _
    refine st4 _ ?_
    show Steps p.tables e below (T4.setTop (mkF m 19 #[.val (.ref b1), .val (.int (0 : Int32)), .val (.int u0), .val (.int u1)] [(.ref (w 0)), (.ref b1)])) _
    refine XS.iconst X4.here hx rfl (hb hby d_prog_7_method_4_code_19) ?_
    show Steps p.tables e below (T4.setTop (mkF m 20 #[.val (.ref b1), .val (.int (0 : Int32)), .val (.int u0), .val (.int u1)] [(.int (3 : Int32)), (.ref (w 0)), (.ref b1)])) _
    refine XS.iconst X4.here hx rfl (hb hby d_prog_7_method_4_code_20) ?_
    show Steps p.tables e below (T4.setTop (mkF m 21 #[.val (.ref b1), .val (.int (0 : Int32)), .val (.int u0), .val (.int u1)] [(.int (2 : Int32)), (.int (3 : Int32)), (.ref (w 0)), (.ref b1)])) _
    refine XS.aloadN X4.here hx rfl (hb hby d_prog_7_method_4_code_21) rfl rfl ?_
    show Steps p.tables e below (T4.setTop (mkF m 22 #[.val (.ref b1), .val (.int (0 : Int32)), .val (.int u0), .val (.int u1)] [(.ref b1), (.int (2 : Int32)), (.int (3 : Int32)), (.ref (w 0)), (.ref b1)])) _
    refine st5 _ ?_
    show Steps p.tables e below (T5.setTop (mkF m 25 #[.val (.ref b1), .val (.int (0 : Int32)), .val (.int u0), .val (.int u1)] [(.ref (w 0)), (.int (2 : Int32)), (.int (3 : Int32)), (.ref (w 0)), (.ref b1)])) _
    refine X5.arraylength hx (by rw [e5]; exact Ar6.1) (State.isArrayOf_alike hZ.alike Ar6.2.1) (g := (mkF m 25 #[.val (.ref b1), .val (.int (0 : Int32)), .val (.int u0), .val (.int u1)] [(.ref (w 0)), (.int (2 : Int32)), (.int (3 : Int32)), (.ref (w 0)), (.ref b1)])) rfl rfl (hb hby d_prog_7_method_4_code_25) _ ?_
    rw [len_of Sz6 Nn6]
    show Steps p.tables e below (T5.setTop (mkF m 26 #[.val (.ref b1), .val (.int (0 : Int32)), .val (.int u0), .val (.int u1)] [(.int (0 : Int32)), (.int (2 : Int32)), (.int (3 : Int32)), (.ref (w 0)), (.ref b1)])) _
    refine XS.imul X5.here hx rfl (hb hby d_prog_7_method_4_code_26) rfl ?_
    show Steps p.tables e below (T5.setTop (mkF m 27 #[.val (.ref b1), .val (.int (0 : Int32)), .val (.int u0), .val (.int u1)] [(.int ((2 : Int32) * (0 : Int32))), (.int (3 : Int32)), (.ref (w 0)), (.ref b1)])) _
    rw [(by decide : ((2 : Int32) * (0 : Int32)) = (0 : Int32))]
    show Steps p.tables e below (T5.setTop (mkF m 27 #[.val (.ref b1), .val (.int (0 : Int32)), .val (.int u0), .val (.int u1)] [(.int (0 : Int32)), (.int (3 : Int32)), (.ref (w 0)), (.ref b1)])) _
    refine st7 _ ?_
    show Steps p.tables e below (T7.setTop (mkF m 30 #[.val (.ref b1), .val (.int (0 : Int32)), .val (.int u0), .val (.int u1)] [(.int (3 : Int32)), (.ref (w 0)), (.ref b1)])) _
    refine st8 _ ?_
    show Steps p.tables e below (T8.setTop (mkF m 33 #[.val (.ref b1), .val (.int (0 : Int32)), .val (.int u0), .val (.int u1)] [(.ref b2), (.ref b1)])) _
    refine st9 _ ?_
    show Steps p.tables e below (T9.setTop (mkF m 36 #[.val (.ref b1), .val (.int (0 : Int32)), .val (.int u0), .val (.int u1)] [])) _
    refine XS.aloadN X9.here hx rfl (hb hby d_prog_7_method_4_code_36) rfl rfl ?_
    show Steps p.tables e below (T9.setTop (mkF m 37 #[.val (.ref b1), .val (.int (0 : Int32)), .val (.int u0), .val (.int u1)] [(.ref b1)])) _
    refine st10 _ ?_
    show Steps p.tables e below (T10.setTop (mkF m 40 #[.val (.ref b1), .val (.int (0 : Int32)), .val (.int u0), .val (.int u1)] [(.ref b2)])) _
    refine XS.iconst X10.here hx rfl (hb hby d_prog_7_method_4_code_40) ?_
    show Steps p.tables e below (T10.setTop (mkF m 41 #[.val (.ref b1), .val (.int (0 : Int32)), .val (.int u0), .val (.int u1)] [(.int (3 : Int32)), (.ref b2)])) _
    refine XS.aloadN X10.here hx rfl (hb hby d_prog_7_method_4_code_41) rfl rfl ?_
    show Steps p.tables e below (T10.setTop (mkF m 42 #[.val (.ref b1), .val (.int (0 : Int32)), .val (.int u0), .val (.int u1)] [(.ref b1), (.int (3 : Int32)), (.ref b2)])) _
    refine st11 _ ?_
    show Steps p.tables e below (T11.setTop (mkF m 45 #[.val (.ref b1), .val (.int (0 : Int32)), .val (.int u0), .val (.int u1)] [(.int (0 : Int32)), (.int (3 : Int32)), (.ref b2)])) _
    refine XS.imul X11.here hx rfl (hb hby d_prog_7_method_4_code_45) rfl ?_
    show Steps p.tables e below (T11.setTop (mkF m 46 #[.val (.ref b1), .val (.int (0 : Int32)), .val (.int u0), .val (.int u1)] [(.int ((3 : Int32) * (0 : Int32))), (.ref b2)])) _
    rw [(by decide : ((3 : Int32) * (0 : Int32)) = (0 : Int32))]
    show Steps p.tables e below (T11.setTop (mkF m 46 #[.val (.ref b1), .val (.int (0 : Int32)), .val (.int u0), .val (.int u1)] [(.int (0 : Int32)), (.ref b2)])) _
    refine XS.iloadN X11.here hx rfl (hb hby d_prog_7_method_4_code_46) rfl ?_
    show Steps p.tables e below (T11.setTop (mkF m 47 #[.val (.ref b1), .val (.int (0 : Int32)), .val (.int u0), .val (.int u1)] [(.int (0 : Int32)), (.int (0 : Int32)), (.ref b2)])) _
    refine st12 _ ?_
    show Steps p.tables e below (T12.setTop (mkF m 48 #[.val (.ref b1), .val (.int (0 : Int32)), .val (.int u0), .val (.int u1)] [])) _
    refine XS.aloadN X12.here hx rfl (hb hby d_prog_7_method_4_code_48) rfl rfl ?_
    show Steps p.tables e below (T12.setTop (mkF m 49 #[.val (.ref b1), .val (.int (0 : Int32)), .val (.int u0), .val (.int u1)] [(.ref b1)])) _
    refine st13 _ ?_
    show Steps p.tables e below (T13.setTop (mkF m 52 #[.val (.ref b1), .val (.int (0 : Int32)), .val (.int u0), .val (.int u1)] [(.ref b2)])) _
    refine XS.iconst X13.here hx rfl (hb hby d_prog_7_method_4_code_52) ?_
    show Steps p.tables e below (T13.setTop (mkF m 53 #[.val (.ref b1), .val (.int (0 : Int32)), .val (.int u0), .val (.int u1)] [(.int (3 : Int32)), (.ref b2)])) _
    refine XS.aloadN X13.here hx rfl (hb hby d_prog_7_method_4_code_53) rfl rfl ?_
    show Steps p.tables e below (T13.setTop (mkF m 54 #[.val (.ref b1), .val (.int (0 : Int32)), .val (.int u0), .val (.int u1)] [(.ref b1), (.int (3 : Int32)), (.ref b2)])) _
    refine st14 _ ?_
    show Steps p.tables e below (T14.setTop (mkF m 57 #[.val (.ref b1), .val (.int (0 : Int32)), .val (.int u0), .val (.int u1)] [(.int (0 : Int32)), (.int (3 : Int32)), (.ref b2)])) _
    refine XS.imul X14.here hx rfl (hb hby d_prog_7_method_4_code_57) rfl ?_
    show Steps p.tables e below (T14.setTop (mkF m 58 #[.val (.ref b1), .val (.int (0 : Int32)), .val (.int u0), .val (.int u1)] [(.int ((3 : Int32) * (0 : Int32))), (.ref b2)])) _
    rw [(by decide : ((3 : Int32) * (0 : Int32)) = (0 : Int32))]
    show Steps p.tables e below (T14.setTop (mkF m 58 #[.val (.ref b1), .val (.int (0 : Int32)), .val (.int u0), .val (.int u1)] [(.int (0 : Int32)), (.ref b2)])) _
    refine XS.iconst X14.here hx rfl (hb hby d_prog_7_method_4_code_58) ?_
    show Steps p.tables e below (T14.setTop (mkF m 59 #[.val (.ref b1), .val (.int (0 : Int32)), .val (.int u0), .val (.int u1)] [(.int (1 : Int32)), (.int (0 : Int32)), (.ref b2)])) _
    refine XS.iadd X14.here hx rfl (hb hby d_prog_7_method_4_code_59) rfl ?_
    show Steps p.tables e below (T14.setTop (mkF m 60 #[.val (.ref b1), .val (.int (0 : Int32)), .val (.int u0), .val (.int u1)] [(.int ((0 : Int32) + (1 : Int32))), (.ref b2)])) _
    rw [(by decide : ((0 : Int32) + (1 : Int32)) = (1 : Int32))]
    show Steps p.tables e below (T14.setTop (mkF m 60 #[.val (.ref b1), .val (.int (0 : Int32)), .val (.int u0), .val (.int u1)] [(.int (1 : Int32)), (.ref b2)])) _
    refine XS.iloadN X14.here hx rfl (hb hby d_prog_7_method_4_code_60) rfl ?_
    show Steps p.tables e below (T14.setTop (mkF m 61 #[.val (.ref b1), .val (.int (0 : Int32)), .val (.int u0), .val (.int u1)] [(.int u0), (.int (1 : Int32)), (.ref b2)])) _
    refine st15 _ ?_
    show Steps p.tables e below (T15.setTop (mkF m 62 #[.val (.ref b1), .val (.int (0 : Int32)), .val (.int u0), .val (.int u1)] [])) _
    refine XS.aloadN X15.here hx rfl (hb hby d_prog_7_method_4_code_62) rfl rfl ?_
    show Steps p.tables e below (T15.setTop (mkF m 63 #[.val (.ref b1), .val (.int (0 : Int32)), .val (.int u0), .val (.int u1)] [(.ref b1)])) _
    refine st16 _ ?_
    show Steps p.tables e below (T16.setTop (mkF m 66 #[.val (.ref b1), .val (.int (0 : Int32)), .val (.int u0), .val (.int u1)] [(.ref b2)])) _
    refine XS.iconst X16.here hx rfl (hb hby d_prog_7_method_4_code_66) ?_
    show Steps p.tables e below (T16.setTop (mkF m 67 #[.val (.ref b1), .val (.int (0 : Int32)), .val (.int u0), .val (.int u1)] [(.int (3 : Int32)), (.ref b2)])) _
    refine XS.aloadN X16.here hx rfl (hb hby d_prog_7_method_4_code_67) rfl rfl ?_
    show Steps p.tables e below (T16.setTop (mkF m 68 #[.val (.ref b1), .val (.int (0 : Int32)), .val (.int u0), .val (.int u1)] [(.ref b1), (.int (3 : Int32)), (.ref b2)])) _
    refine st17 _ ?_
    show Steps p.tables e below (T17.setTop (mkF m 71 #[.val (.ref b1), .val (.int (0 : Int32)), .val (.int u0), .val (.int u1)] [(.int (0 : Int32)), (.int (3 : Int32)), (.ref b2)])) _
    refine XS.imul X17.here hx rfl (hb hby d_prog_7_method_4_code_71) rfl ?_
    show Steps p.tables e below (T17.setTop (mkF m 72 #[.val (.ref b1), .val (.int (0 : Int32)), .val (.int u0), .val (.int u1)] [(.int ((3 : Int32) * (0 : Int32))), (.ref b2)])) _
    rw [(by decide : ((3 : Int32) * (0 : Int32)) = (0 : Int32))]
    show Steps p.tables e below (T17.setTop (mkF m 72 #[.val (.ref b1), .val (.int (0 : Int32)), .val (.int u0), .val (.int u1)] [(.int (0 : Int32)), (.ref b2)])) _
    refine XS.iconst X17.here hx rfl (hb hby d_prog_7_method_4_code_72) ?_
    show Steps p.tables e below (T17.setTop (mkF m 73 #[.val (.ref b1), .val (.int (0 : Int32)), .val (.int u0), .val (.int u1)] [(.int (2 : Int32)), (.int (0 : Int32)), (.ref b2)])) _
    refine XS.iadd X17.here hx rfl (hb hby d_prog_7_method_4_code_73) rfl ?_
    show Steps p.tables e below (T17.setTop (mkF m 74 #[.val (.ref b1), .val (.int (0 : Int32)), .val (.int u0), .val (.int u1)] [(.int ((0 : Int32) + (2 : Int32))), (.ref b2)])) _
    rw [(by decide : ((0 : Int32) + (2 : Int32)) = (2 : Int32))]
    show Steps p.tables e below (T17.setTop (mkF m 74 #[.val (.ref b1), .val (.int (0 : Int32)), .val (.int u0), .val (.int u1)] [(.int (2 : Int32)), (.ref b2)])) _
    refine XS.iloadN X17.here hx rfl (hb hby d_prog_7_method_4_code_74) rfl ?_
    show Steps p.tables e below (T17.setTop (mkF m 75 #[.val (.ref b1), .val (.int (0 : Int32)), .val (.int u0), .val (.int u1)] [(.int u1), (.int (2 : Int32)), (.ref b2)])) _
    refine st18 _ ?_
    show Steps p.tables e below (T18.setTop (mkF m 76 #[.val (.ref b1), .val (.int (0 : Int32)), .val (.int u0), .val (.int u1)] [])) _
    refine XS.aloadN X18.here hx rfl (hb hby d_prog_7_method_4_code_76) rfl rfl ?_
    show Steps p.tables e below (T18.setTop (mkF m 77 #[.val (.ref b1), .val (.int (0 : Int32)), .val (.int u0), .val (.int u1)] [(.ref b1)])) _
    refine XS.dup X18.here hx rfl (hb hby d_prog_7_method_4_code_77) rfl rfl ?_
    show Steps p.tables e below (T18.setTop (mkF m 78 #[.val (.ref b1), .val (.int (0 : Int32)), .val (.int u0), .val (.int u1)] [(.ref b1), (.ref b1)])) _
    refine st19 _ ?_
    show Steps p.tables e below (T19.setTop (mkF m 81 #[.val (.ref b1), .val (.int (0 : Int32)), .val (.int u0), .val (.int u1)] [(.int (0 : Int32)), (.ref b1)])) _
    refine XS.iconst X19.here hx rfl (hb hby d_prog_7_method_4_code_81) ?_
    show Steps p.tables e below (T19.setTop (mkF m 82 #[.val (.ref b1), .val (.int (0 : Int32)), .val (.int u0), .val (.int u1)] [(.int (1 : Int32)), (.int (0 : Int32)), (.ref b1)])) _
    refine XS.iadd X19.here hx rfl (hb hby d_prog_7_method_4_code_82) rfl ?_
    show Steps p.tables e below (T19.setTop (mkF m 83 #[.val (.ref b1), .val (.int (0 : Int32)), .val (.int u0), .val (.int u1)] [(.int ((0 : Int32) + (1 : Int32))), (.ref b1)])) _
    rw [(by decide : ((0 : Int32) + (1 : Int32)) = (1 : Int32))]
    show Steps p.tables e below (T19.setTop (mkF m 83 #[.val (.ref b1), .val (.int (0 : Int32)), .val (.int u0), .val (.int u1)] [(.int (1 : Int32)), (.ref b1)])) _
    refine st20 _ ?_
    show Steps p.tables e below (T20.setTop (mkF m 86 #[.val (.ref b1), .val (.int (0 : Int32)), .val (.int u0), .val (.int u1)] [])) _
    refine XS.aloadN X20.here hx rfl (hb hby d_prog_7_method_4_code_86) rfl rfl ?_
    show Steps p.tables e below (T20.setTop (mkF m 87 #[.val (.ref b1), .val (.int (0 : Int32)), .val (.int u0), .val (.int u1)] [(.ref b1)])) _
    refine XS.iloadN X20.here hx rfl (hb hby d_prog_7_method_4_code_87) rfl ?_
    show Steps p.tables e below (T20.setTop (mkF m 88 #[.val (.ref b1), .val (.int (0 : Int32)), .val (.int u0), .val (.int u1)] [(.int u0), (.ref b1)])) _
    refine XS.iconst X20.here hx rfl (hb hby d_prog_7_method_4_code_88) ?_
    show Steps p.tables e below (T20.setTop (mkF m 89 #[.val (.ref b1), .val (.int (0 : Int32)), .val (.int u0), .val (.int u1)] [(.int (1 : Int32)), (.int u0), (.ref b1)])) _
    refine XS.iadd X20.here hx rfl (hb hby d_prog_7_method_4_code_89) rfl ?_
    show Steps p.tables e below (T20.setTop (mkF m 90 #[.val (.ref b1), .val (.int (0 : Int32)), .val (.int u0), .val (.int u1)] [(.int (u0 + (1 : Int32))), (.ref b1)])) _
    refine XS.iloadN X20.here hx rfl (hb hby d_prog_7_method_4_code_90) rfl ?_
    show Steps p.tables e below (T20.setTop (mkF m 91 #[.val (.ref b1), .val (.int (0 : Int32)), .val (.int u0), .val (.int u1)] [(.int u1), (.int (u0 + (1 : Int32))), (.ref b1)])) _
    refine XS.iconst X20.here hx rfl (hb hby d_prog_7_method_4_code_91) ?_
    show Steps p.tables e below (T20.setTop (mkF m 92 #[.val (.ref b1), .val (.int (0 : Int32)), .val (.int u0), .val (.int u1)] [(.int (1 : Int32)), (.int u1), (.int (u0 + (1 : Int32))), (.ref b1)])) _
    refine XS.iadd X20.here hx rfl (hb hby d_prog_7_method_4_code_92) rfl ?_
    show Steps p.tables e below (T20.setTop (mkF m 93 #[.val (.ref b1), .val (.int (0 : Int32)), .val (.int u0), .val (.int u1)] [(.int (u1 + (1 : Int32))), (.int (u0 + (1 : Int32))), (.ref b1)])) _
    refine st21.trans ?_
    show Steps p.tables e below (T21.setTop (mkF m 96 #[.val (.ref b1), .val (.int (0 : Int32)), .val (.int u0), .val (.int u1)] [])) _
    exact X21.returnOut hx Bd.returns (hb hby d_prog_7_method_4_code_96) hr
  · show Q_rm_addNode_8 Z w κ n0 u0 u1 u2 u3 u4 u5 b1 _ T21.heap _
    exact ⟨b2, k1, rfl, N21, Z21, K21, f21_0, f21_1, f21_2, f21_3, f21_4, f21_5, f21_6, f21_7, f21_8, hi8_0, hi8_1, hi8_2⟩
theorem pd_28III29V : parseMethodDescriptor "(III)V" = some ⟨[.int, .int, .int], none⟩ := by decide +kernel
theorem d_prog_7_method_5_code_0 : decode prog_7_method_5_code 0 = .ok (.aload_n 0, 1) := by decide +kernel
theorem d_prog_7_method_5_code_1 : decode prog_7_method_5_code 1 = .ok (.new 65, 3) := by decide +kernel
theorem d_prog_7_method_5_code_4 : decode prog_7_method_5_code 4 = .ok (.dup, 1) := by decide +kernel
theorem d_prog_7_method_5_code_5 : decode prog_7_method_5_code 5 = .ok (.aload_n 1, 1) := by decide +kernel
theorem d_prog_7_method_5_code_6 : decode prog_7_method_5_code 6 = .ok (.iload_n 2, 1) := by decide +kernel
theorem d_prog_7_method_5_code_7 : decode prog_7_method_5_code 7 = .ok (.aload_n 3, 1) := by decide +kernel
theorem d_prog_7_method_5_code_8 : decode prog_7_method_5_code 8 = .ok (.iload 4, 2) := by decide +kernel
theorem d_prog_7_method_5_code_10 : decode prog_7_method_5_code 10 = .ok (.iload 5, 2) := by decide +kernel
theorem d_prog_7_method_5_code_12 : decode prog_7_method_5_code 12 = .ok (.aload_n 0, 1) := by decide +kernel
theorem d_prog_7_method_5_code_13 : decode prog_7_method_5_code 13 = .ok (.getfield 67, 3) := by decide +kernel
theorem d_prog_7_method_5_code_16 : decode prog_7_method_5_code 16 = .ok (.invokespecial 71, 3) := by decide +kernel
theorem d_prog_10_method_1_code_0 : decode prog_10_method_1_code 0 = .ok (.aload_n 0, 1) := by decide +kernel
theorem d_prog_10_method_1_code_1 : decode prog_10_method_1_code 1 = .ok (.invokespecial 1, 3) := by decide +kernel
theorem d_jdk_30_method_1_code_0 : decode jdk_30_method_1_code 0 = .ok (.aload_n 0, 1) := by decide +kernel
theorem d_jdk_30_method_1_code_1 : decode jdk_30_method_1_code 1 = .ok (.invokespecial 1, 3) := by decide +kernel
theorem d_jdk_30_method_1_code_4 : decode jdk_30_method_1_code 4 = .ok (.return_, 1) := by decide +kernel
theorem pn_java_lang_Record : plainName "java/lang/Record" = true := by first | (simp [plainName, overriddenIn]; done) | decide +kernel
set_option maxRecDepth 65536 in
set_option maxHeartbeats 40000000 in
theorem rm__init__9 (l : Launch) (Z : State) (a0 : Array Value) (hw : ∀ d ∈ tables_1, d.before a0 Z = true) (w : Nat → Addr) (κ : Nat → ClassId) (h0 : Heap) (n0 : Nat) (Z0 : n0 ≤ h0.size) (K : Kon Z h0 w κ) (u0 u1 u2 u3 u4 u5 : Int32) (b1 : Addr) (b2 : Addr) (b3 : Addr) (b4 : Addr) (b5 : Addr) (k1 : ClassId) (k2 : ClassId) (k3 : ClassId) :
    OM l Z (⟨"java/lang/Record", "<init>", "()V"⟩ : MethodName) jdk_30_method_1_code 1 none [] ({ frames := 1, cells := 0, slots := 0, locals := 12 } : Room) #[(.ref b5)] h0 (OP none n0 h0) := by
  refine MetFree.of_bodySF (plainFor_of_name pn_java_lang_Record) hisR ?_
  intro p e s m args below meth c s₁ Bd hml0 hP hK
  obtain ⟨rfl, hZ, hh⟩ := hP
  have hx := Bd.exec
  have hby := Bd.bytes
  have hml : c.maxLocals = 1 := hml0
  have hown : s.vm.findClass "java/lang/Record" = some m.cls := findClass_of_methodNamed Bd.named
  have hnm := (name_of_methodNamed Bd.named Bd.method).1
  have X0 : Stand p l e ({ frames := 1, cells := 0, slots := 0, locals := 12 } : Room) s m #[(.ref b5)] below meth c s₁ [] 0 0 := Stand.of_body Bd
  have e0 : s₁.heap = h0 := by rw [← hh, Bd.state]; rfl
  have N0 := Fr.nil n0
  have pre0 : ∀ t, Steps p.tables e below (s₁.setTop (mkF m 0 #[.val (.ref b5)] [])) t → Steps p.tables e below (s₁.setTop (entryFrame m #[(.ref b5)] 1)) t := fun t k => castTop (by first | rfl | simp [entryFrame, mkF, argsToLocals, Value.category]) k
  obtain ⟨T1, X1, e1, st1⟩ := initO X0 hx hZ hown (hw _ (List.mem_of_getElem? (i := 73) rfl)) (hw _ (List.mem_of_getElem? (i := 7) rfl)) (hw _ (List.mem_of_getElem? (i := 8) rfl)) e0 (g := (mkF m 1 #[.val (.ref b5)] [(.ref b5)])) rfl (by rw [hml]; rfl) rfl (hb hby d_jdk_30_method_1_code_1) (by decide) (W := 0) (by show 2 * 0 + _ ≤ _; exact Nat.le_of_eq rfl) (by decide)
  obtain ⟨fs, hr, hrun, hended, hW, hsame⟩ := X1.leave (v := none) (fun _ => rfl)
  refine ⟨_, _, pre0 _ ?_, hrun, hended, _, _, rfl, ?_, ⟨_, rfl⟩, hW, hsame.mono (by decide) (by decide)⟩
  · show Steps p.tables e below (s₁.setTop (mkF m 0 #[.val (.ref b5)] [])) _
    refine XS.aloadN X0.here hx rfl (hb hby d_jdk_30_method_1_code_0) rfl rfl ?_
    show Steps p.tables e below (s₁.setTop (mkF m 1 #[.val (.ref b5)] [(.ref b5)])) _
    refine st1 _ ?_
    show Steps p.tables e below (T1.setTop (mkF m 4 #[.val (.ref b5)] [])) _
    exact X1.returnOut hx Bd.returns (hb hby d_jdk_30_method_1_code_4) hr
  · exact ⟨rfl, N0, e1⟩
theorem d_prog_10_method_1_code_4 : decode prog_10_method_1_code 4 = .ok (.aload_n 0, 1) := by decide +kernel
theorem d_prog_10_method_1_code_5 : decode prog_10_method_1_code 5 = .ok (.aload_n 1, 1) := by decide +kernel
theorem d_prog_10_method_1_code_6 : decode prog_10_method_1_code 6 = .ok (.putfield 7, 3) := by decide +kernel
theorem d_prog_10_method_1_code_9 : decode prog_10_method_1_code 9 = .ok (.aload_n 0, 1) := by decide +kernel
theorem d_prog_10_method_1_code_10 : decode prog_10_method_1_code 10 = .ok (.iload_n 2, 1) := by decide +kernel
theorem d_prog_10_method_1_code_11 : decode prog_10_method_1_code 11 = .ok (.putfield 13, 3) := by decide +kernel
theorem d_prog_10_method_1_code_14 : decode prog_10_method_1_code 14 = .ok (.aload_n 0, 1) := by decide +kernel
theorem d_prog_10_method_1_code_15 : decode prog_10_method_1_code 15 = .ok (.aload_n 3, 1) := by decide +kernel
theorem d_prog_10_method_1_code_16 : decode prog_10_method_1_code 16 = .ok (.putfield 17, 3) := by decide +kernel
theorem d_prog_10_method_1_code_19 : decode prog_10_method_1_code 19 = .ok (.aload_n 0, 1) := by decide +kernel
theorem d_prog_10_method_1_code_20 : decode prog_10_method_1_code 20 = .ok (.iload 4, 2) := by decide +kernel
theorem d_prog_10_method_1_code_22 : decode prog_10_method_1_code 22 = .ok (.putfield 20, 3) := by decide +kernel
theorem d_prog_10_method_1_code_25 : decode prog_10_method_1_code 25 = .ok (.aload_n 0, 1) := by decide +kernel
theorem d_prog_10_method_1_code_26 : decode prog_10_method_1_code 26 = .ok (.iload 5, 2) := by decide +kernel
theorem d_prog_10_method_1_code_28 : decode prog_10_method_1_code 28 = .ok (.putfield 23, 3) := by decide +kernel
theorem d_prog_10_method_1_code_31 : decode prog_10_method_1_code 31 = .ok (.aload_n 0, 1) := by decide +kernel
theorem d_prog_10_method_1_code_32 : decode prog_10_method_1_code 32 = .ok (.aload 6, 2) := by decide +kernel
theorem d_prog_10_method_1_code_34 : decode prog_10_method_1_code 34 = .ok (.putfield 26, 3) := by decide +kernel
theorem d_prog_10_method_1_code_37 : decode prog_10_method_1_code 37 = .ok (.return_, 1) := by decide +kernel
def Q_rm__init__10 (Z : State) (w : Nat → Addr) (κ : Nat → ClassId) (n0 : Nat) (u0 u1 u2 u3 u4 u5 : Int32) (b1 : Addr) (b2 : Addr) (b3 : Addr) (b4 : Addr) (b5 : Addr) (k1 : ClassId) (k2 : ClassId) (k3 : ClassId) (v : Option Value) (h : Heap) (L : List Loc) : Prop := (v = none) ∧ (Fr n0 L) ∧ (n0 ≤ h.size) ∧ (Kon Z h w κ) ∧ (Exa Z h b1 "com/example/tight_tree/tighttree/Block") ∧ (Fld Z h b1 "com/example/tight_tree/tighttree/Block" "nodes" "[I" (.ref b2)) ∧ (Fld Z h b1 "com/example/tight_tree/tighttree/Block" "parts" "[Lcom/example/tight_tree/tighttree/Block;" (.ref (w 1))) ∧ (Fld Z h b1 "com/example/tight_tree/tighttree/Block" "placings" "[I" (.ref (w 0))) ∧ (Fld Z h b1 "com/example/tight_tree/tighttree/Block" "height" "I" (.int (imax (0 : Int32) (u1 + (1 : Int32))))) ∧ (Fld Z h b1 "com/example/tight_tree/tighttree/Block" "width" "I" (.int (imax (0 : Int32) (u0 + (1 : Int32))))) ∧ (Fld Z h b1 "com/example/tight_tree/tighttree/Block" "nodeCount" "I" (.int (1 : Int32))) ∧ (Fld Z h b1 "com/example/tight_tree/tighttree/Block" "runs" "Lcom/example/tight_tree/tighttree/Block$Run;" .null) ∧ (Arv Z h b2 k1 .int (3 : Int32) [(.int (0 : Int32)), (.int u0), (.int u1)] (.int (0 : Int32))) ∧ (Arv Z h b3 k2 .int (0 : Int32) [] (.int (0 : Int32))) ∧ (Arv Z h b4 k3 .int (0 : Int32) [] (.int (0 : Int32))) ∧ (Exa Z h b5 "com/example/tight_tree/tighttree/Block$Run") ∧ (Fld Z h b5 "com/example/tight_tree/tighttree/Block$Run" "ids" "[I" (.ref b3)) ∧ (Fld Z h b5 "com/example/tight_tree/tighttree/Block$Run" "count" "I" (.int (0 : Int32))) ∧ (Fld Z h b5 "com/example/tight_tree/tighttree/Block$Run" "offsets" "[I" (.ref b4)) ∧ (Fld Z h b5 "com/example/tight_tree/tighttree/Block$Run" "x" "I" (.int u2)) ∧ (Fld Z h b5 "com/example/tight_tree/tighttree/Block$Run" "y" "I" (.int u3)) ∧ (Fld Z h b5 "com/example/tight_tree/tighttree/Block$Run" "before" "Lcom/example/tight_tree/tighttree/Block$Run;" .null)
theorem pn_com_example_tight_tree_tighttree_Block_Run : plainName "com/example/tight_tree/tighttree/Block$Run" = true := by first | (simp [plainName, overriddenIn]; done) | decide +kernel
set_option maxRecDepth 65536 in
set_option maxHeartbeats 40000000 in
theorem rm__init__10 (l : Launch) (Z : State) (a0 : Array Value) (hw : ∀ d ∈ tables_1, d.before a0 Z = true) (w : Nat → Addr) (κ : Nat → ClassId) (h0 : Heap) (n0 : Nat) (Z0 : n0 ≤ h0.size) (K : Kon Z h0 w κ) (u0 u1 u2 u3 u4 u5 : Int32) (b1 : Addr) (b2 : Addr) (b3 : Addr) (b4 : Addr) (b5 : Addr) (k1 : ClassId) (k2 : ClassId) (k3 : ClassId) (fE_b1 : Exa Z h0 b1 "com/example/tight_tree/tighttree/Block") (fF_b1_com_example_tight_tree_tighttree_Block_nodes : Fld Z h0 b1 "com/example/tight_tree/tighttree/Block" "nodes" "[I" (.ref b2)) (fF_b1_com_example_tight_tree_tighttree_Block_parts : Fld Z h0 b1 "com/example/tight_tree/tighttree/Block" "parts" "[Lcom/example/tight_tree/tighttree/Block;" (.ref (w 1))) (fF_b1_com_example_tight_tree_tighttree_Block_placings : Fld Z h0 b1 "com/example/tight_tree/tighttree/Block" "placings" "[I" (.ref (w 0))) (fF_b1_com_example_tight_tree_tighttree_Block_height : Fld Z h0 b1 "com/example/tight_tree/tighttree/Block" "height" "I" (.int (imax (0 : Int32) (u1 + (1 : Int32))))) (fF_b1_com_example_tight_tree_tighttree_Block_width : Fld Z h0 b1 "com/example/tight_tree/tighttree/Block" "width" "I" (.int (imax (0 : Int32) (u0 + (1 : Int32))))) (fF_b1_com_example_tight_tree_tighttree_Block_nodeCount : Fld Z h0 b1 "com/example/tight_tree/tighttree/Block" "nodeCount" "I" (.int (1 : Int32))) (fF_b1_com_example_tight_tree_tighttree_Block_runs : Fld Z h0 b1 "com/example/tight_tree/tighttree/Block" "runs" "Lcom/example/tight_tree/tighttree/Block$Run;" .null) (fA_b2 : Arv Z h0 b2 k1 .int (3 : Int32) [(.int (0 : Int32)), (.int u0), (.int u1)] (.int (0 : Int32))) (fA_b3 : Arv Z h0 b3 k2 .int (0 : Int32) [] (.int (0 : Int32))) (fA_b4 : Arv Z h0 b4 k3 .int (0 : Int32) [] (.int (0 : Int32))) (fE_b5 : Exa Z h0 b5 "com/example/tight_tree/tighttree/Block$Run") (fF_b5_com_example_tight_tree_tighttree_Block_Run_ids : Fld Z h0 b5 "com/example/tight_tree/tighttree/Block$Run" "ids" "[I" .null) (fF_b5_com_example_tight_tree_tighttree_Block_Run_count : Fld Z h0 b5 "com/example/tight_tree/tighttree/Block$Run" "count" "I" (.int (0 : Int32))) (fF_b5_com_example_tight_tree_tighttree_Block_Run_offsets : Fld Z h0 b5 "com/example/tight_tree/tighttree/Block$Run" "offsets" "[I" .null) (fF_b5_com_example_tight_tree_tighttree_Block_Run_x : Fld Z h0 b5 "com/example/tight_tree/tighttree/Block$Run" "x" "I" (.int (0 : Int32))) (fF_b5_com_example_tight_tree_tighttree_Block_Run_y : Fld Z h0 b5 "com/example/tight_tree/tighttree/Block$Run" "y" "I" (.int (0 : Int32))) (fF_b5_com_example_tight_tree_tighttree_Block_Run_before : Fld Z h0 b5 "com/example/tight_tree/tighttree/Block$Run" "before" "Lcom/example/tight_tree/tighttree/Block$Run;" .null) (fG_b1 : n0 ≤ b1) (fKN_b1 : ∀ i, i < 2 → w i ≠ b1) (fG_b2 : n0 ≤ b2) (fN_b1_b2 : b1 ≠ b2) (fKN_b2 : ∀ i, i < 2 → w i ≠ b2) (fG_b3 : n0 ≤ b3) (fN_b1_b3 : b1 ≠ b3) (fN_b2_b3 : b2 ≠ b3) (fKN_b3 : ∀ i, i < 2 → w i ≠ b3) (fG_b4 : n0 ≤ b4) (fN_b1_b4 : b1 ≠ b4) (fN_b2_b4 : b2 ≠ b4) (fN_b3_b4 : b3 ≠ b4) (fKN_b4 : ∀ i, i < 2 → w i ≠ b4) (fG_b5 : n0 ≤ b5) (fN_b1_b5 : b1 ≠ b5) (fN_b2_b5 : b2 ≠ b5) (fN_b3_b5 : b3 ≠ b5) (fN_b4_b5 : b4 ≠ b5) (fKN_b5 : ∀ i, i < 2 → w i ≠ b5) :
    OM l Z (⟨"com/example/tight_tree/tighttree/Block$Run", "<init>", "([II[IIILcom/example/tight_tree/tighttree/Block$Run;)V"⟩ : MethodName) prog_10_method_1_code 7 none [] ({ frames := 2, cells := 0, slots := 0, locals := 24 } : Room) #[(.ref b5), (.ref b3), (.int (0 : Int32)), (.ref b4), (.int u2), (.int u3), .null] h0 (Q_rm__init__10 Z w κ n0 u0 u1 u2 u3 u4 u5 b1 b2 b3 b4 b5 k1 k2 k3) := by
  refine MetFree.of_bodySF (plainFor_of_name pn_com_example_tight_tree_tighttree_Block_Run) hisR ?_
  intro p e s m args below meth c s₁ Bd hml0 hP hK
  obtain ⟨rfl, hZ, hh⟩ := hP
  have hx := Bd.exec
  have hby := Bd.bytes
  have hml : c.maxLocals = 7 := hml0
  have hown : s.vm.findClass "com/example/tight_tree/tighttree/Block$Run" = some m.cls := findClass_of_methodNamed Bd.named
  have hnm := (name_of_methodNamed Bd.named Bd.method).1
  have X0 : Stand p l e ({ frames := 2, cells := 0, slots := 0, locals := 24 } : Room) s m #[(.ref b5), (.ref b3), (.int (0 : Int32)), (.ref b4), (.int u2), (.int u3), .null] below meth c s₁ [] 0 0 := Stand.of_body Bd
  have e0 : s₁.heap = h0 := by rw [← hh, Bd.state]; rfl
  have N0 := Fr.nil n0
  have pre0 : ∀ t, Steps p.tables e below (s₁.setTop (mkF m 0 #[.val (.ref b5), .val (.ref b3), .val (.int (0 : Int32)), .val (.ref b4), .val (.int u2), .val (.int u3), .val .null] [])) t → Steps p.tables e below (s₁.setTop (entryFrame m #[(.ref b5), (.ref b3), (.int (0 : Int32)), (.ref b4), (.int u2), (.int u3), .null] 7)) t := fun t k => castTop (by first | rfl | simp [entryFrame, mkF, argsToLocals, Value.category]) k
  obtain ⟨_, _, ⟨T1, L1, kk1, n1⟩, -, X1, ⟨Lc1, hQ1, l1, y1, z1⟩, st1⟩ := Jvm.Stand.specialBack X0 hx (y := (⟨"java/lang/Record", "<init>", "()V"⟩ : MethodName)) rfl hown (mvT hZ (hw _ (List.mem_of_getElem? (i := 68) rfl))) (mvT hZ (hw _ (List.mem_of_getElem? (i := 69) rfl))) (mvT hZ (hw _ (List.mem_of_getElem? (i := 72) rfl))) (by decide) (backOf (W := 0) (rm__init__9 l Z a0 hw w κ h0 n0 Z0 K u0 u1 u2 u3 u4 u5 b1 b2 b3 b4 b5 k1 k2 k3) hZ (hw _ (List.mem_of_getElem? (i := 72) rfl)) (hw _ (List.mem_of_getElem? (i := 71) rfl)) (by decide) (by decide)) (g := (mkF m 1 #[.val (.ref b5), .val (.ref b3), .val (.int (0 : Int32)), .val (.ref b4), .val (.int u2), .val (.int u3), .val .null] [(.ref b5)])) rfl (by rw [hml]; rfl) (Steps.refl _) (a := b5) (argsL := []) (rest := []) (lenOf pd_2829V rfl) rfl (by show 2 * 0 + _ ≤ _; exact Nat.le_of_eq rfl) (hb hby d_prog_10_method_1_code_1) (fun _ _ => ⟨rfl, e0, (by decide : 0 + 0 ≤ _), (by decide : 0 + 0 ≤ _)⟩)
  dsimp only [Pt.U, Pt.locs, Pt.cells, Pt.slots] at X1 l1 y1 z1 st1 hQ1
  subst l1 y1 z1
  obtain ⟨rfl, N1q, e1⟩ := hQ1
  have N1 := Fr.app N0 N1q
  obtain ⟨T2, h2, X2, e2, W2, st2⟩ := putF X1 hx hZ hown (host := "") (Or.inl (hw _ (List.mem_of_getElem? (i := 74) rfl))) Via.refl e1 fF_b5_com_example_tight_tree_tighttree_Block_Run_ids fE_b5 (Or.inr ⟨(hw _ (List.mem_of_getElem? (i := 75) rfl)), rfl, hnm⟩) (hw _ (List.mem_of_getElem? (i := 61) rfl)) (ty := (.array .int)) (by decide) rfl rfl (g := (mkF m 6 #[.val (.ref b5), .val (.ref b3), .val (.int (0 : Int32)), .val (.ref b4), .val (.int u2), .val (.int u3), .val .null] [(.ref b3), (.ref b5)])) rfl rfl (hb hby d_prog_10_method_1_code_6)
  have f2_fE_b1 : Exa Z h2 b1 "com/example/tight_tree/tighttree/Block" := fE_b1.wr W2
  have f2_fF_b1_com_example_tight_tree_tighttree_Block_nodes : Fld Z h2 b1 "com/example/tight_tree/tighttree/Block" "nodes" "[I" (.ref b2) := fF_b1_com_example_tight_tree_tighttree_Block_nodes.other W2 (Or.inl fN_b1_b5)
  have f2_fF_b1_com_example_tight_tree_tighttree_Block_parts : Fld Z h2 b1 "com/example/tight_tree/tighttree/Block" "parts" "[Lcom/example/tight_tree/tighttree/Block;" (.ref (w 1)) := fF_b1_com_example_tight_tree_tighttree_Block_parts.other W2 (Or.inl fN_b1_b5)
  have f2_fF_b1_com_example_tight_tree_tighttree_Block_placings : Fld Z h2 b1 "com/example/tight_tree/tighttree/Block" "placings" "[I" (.ref (w 0)) := fF_b1_com_example_tight_tree_tighttree_Block_placings.other W2 (Or.inl fN_b1_b5)
  have f2_fF_b1_com_example_tight_tree_tighttree_Block_height : Fld Z h2 b1 "com/example/tight_tree/tighttree/Block" "height" "I" (.int (imax (0 : Int32) (u1 + (1 : Int32)))) := fF_b1_com_example_tight_tree_tighttree_Block_height.other W2 (Or.inl fN_b1_b5)
  have f2_fF_b1_com_example_tight_tree_tighttree_Block_width : Fld Z h2 b1 "com/example/tight_tree/tighttree/Block" "width" "I" (.int (imax (0 : Int32) (u0 + (1 : Int32)))) := fF_b1_com_example_tight_tree_tighttree_Block_width.other W2 (Or.inl fN_b1_b5)
  have f2_fF_b1_com_example_tight_tree_tighttree_Block_nodeCount : Fld Z h2 b1 "com/example/tight_tree/tighttree/Block" "nodeCount" "I" (.int (1 : Int32)) := fF_b1_com_example_tight_tree_tighttree_Block_nodeCount.other W2 (Or.inl fN_b1_b5)
  have f2_fF_b1_com_example_tight_tree_tighttree_Block_runs : Fld Z h2 b1 "com/example/tight_tree/tighttree/Block" "runs" "Lcom/example/tight_tree/tighttree/Block$Run;" .null := fF_b1_com_example_tight_tree_tighttree_Block_runs.other W2 (Or.inl fN_b1_b5)
  have f2_fA_b2 : Arv Z h2 b2 k1 .int (3 : Int32) [(.int (0 : Int32)), (.int u0), (.int u1)] (.int (0 : Int32)) := fA_b2.other W2 fN_b2_b5
  have f2_fA_b3 : Arv Z h2 b3 k2 .int (0 : Int32) [] (.int (0 : Int32)) := fA_b3.other W2 fN_b3_b5
  have f2_fA_b4 : Arv Z h2 b4 k3 .int (0 : Int32) [] (.int (0 : Int32)) := fA_b4.other W2 fN_b4_b5
  have f2_fE_b5 : Exa Z h2 b5 "com/example/tight_tree/tighttree/Block$Run" := fE_b5.wr W2
  have f2_fF_b5_com_example_tight_tree_tighttree_Block_Run_ids : Fld Z h2 b5 "com/example/tight_tree/tighttree/Block$Run" "ids" "[I" (.ref b3) := fF_b5_com_example_tight_tree_tighttree_Block_Run_ids.same W2
  have f2_fF_b5_com_example_tight_tree_tighttree_Block_Run_count : Fld Z h2 b5 "com/example/tight_tree/tighttree/Block$Run" "count" "I" (.int (0 : Int32)) := fF_b5_com_example_tight_tree_tighttree_Block_Run_count.other W2 (Or.inr (slot_ne (Or.inr (hw _ (List.mem_of_getElem? (i := 77) rfl))) (Or.inr (hw _ (List.mem_of_getElem? (i := 75) rfl))) (by decide) (t := .int) (t' := (.array .int)) (by decide) (by decide)))
  have f2_fF_b5_com_example_tight_tree_tighttree_Block_Run_offsets : Fld Z h2 b5 "com/example/tight_tree/tighttree/Block$Run" "offsets" "[I" .null := fF_b5_com_example_tight_tree_tighttree_Block_Run_offsets.other W2 (Or.inr (slot_ne (Or.inr (hw _ (List.mem_of_getElem? (i := 79) rfl))) (Or.inr (hw _ (List.mem_of_getElem? (i := 75) rfl))) (by decide) (t := (.array .int)) (t' := (.array .int)) (by decide) (by decide)))
  have f2_fF_b5_com_example_tight_tree_tighttree_Block_Run_x : Fld Z h2 b5 "com/example/tight_tree/tighttree/Block$Run" "x" "I" (.int (0 : Int32)) := fF_b5_com_example_tight_tree_tighttree_Block_Run_x.other W2 (Or.inr (slot_ne (Or.inr (hw _ (List.mem_of_getElem? (i := 81) rfl))) (Or.inr (hw _ (List.mem_of_getElem? (i := 75) rfl))) (by decide) (t := .int) (t' := (.array .int)) (by decide) (by decide)))
  have f2_fF_b5_com_example_tight_tree_tighttree_Block_Run_y : Fld Z h2 b5 "com/example/tight_tree/tighttree/Block$Run" "y" "I" (.int (0 : Int32)) := fF_b5_com_example_tight_tree_tighttree_Block_Run_y.other W2 (Or.inr (slot_ne (Or.inr (hw _ (List.mem_of_getElem? (i := 83) rfl))) (Or.inr (hw _ (List.mem_of_getElem? (i := 75) rfl))) (by decide) (t := .int) (t' := (.array .int)) (by decide) (by decide)))
  have f2_fF_b5_com_example_tight_tree_tighttree_Block_Run_before : Fld Z h2 b5 "com/example/tight_tree/tighttree/Block$Run" "before" "Lcom/example/tight_tree/tighttree/Block$Run;" .null := fF_b5_com_example_tight_tree_tighttree_Block_Run_before.other W2 (Or.inr (slot_ne (Or.inr (hw _ (List.mem_of_getElem? (i := 85) rfl))) (Or.inr (hw _ (List.mem_of_getElem? (i := 75) rfl))) (by decide) (t := (.object "com/example/tight_tree/tighttree/Block$Run")) (t' := (.array .int)) (by decide) (by decide)))
  have K2 := K.wr W2 fKN_b5
  have Z2 : n0 ≤ h2.size := Nat.le_trans Z0 (Nat.le_of_eq W2.size.symm)
  have N2 := Fr.snoc X2 N1 fG_b5
  obtain ⟨T3, h3, X3, e3, W3, st3⟩ := putF X2 hx hZ hown (host := "") (Or.inl (hw _ (List.mem_of_getElem? (i := 76) rfl))) Via.refl e2 f2_fF_b5_com_example_tight_tree_tighttree_Block_Run_count f2_fE_b5 (Or.inr ⟨(hw _ (List.mem_of_getElem? (i := 77) rfl)), rfl, hnm⟩) (hw _ (List.mem_of_getElem? (i := 61) rfl)) (ty := .int) (by decide) rfl rfl (g := (mkF m 11 #[.val (.ref b5), .val (.ref b3), .val (.int (0 : Int32)), .val (.ref b4), .val (.int u2), .val (.int u3), .val .null] [(.int (0 : Int32)), (.ref b5)])) rfl rfl (hb hby d_prog_10_method_1_code_11)
  have f3_fE_b1 : Exa Z h3 b1 "com/example/tight_tree/tighttree/Block" := f2_fE_b1.wr W3
  have f3_fF_b1_com_example_tight_tree_tighttree_Block_nodes : Fld Z h3 b1 "com/example/tight_tree/tighttree/Block" "nodes" "[I" (.ref b2) := f2_fF_b1_com_example_tight_tree_tighttree_Block_nodes.other W3 (Or.inl fN_b1_b5)
  have f3_fF_b1_com_example_tight_tree_tighttree_Block_parts : Fld Z h3 b1 "com/example/tight_tree/tighttree/Block" "parts" "[Lcom/example/tight_tree/tighttree/Block;" (.ref (w 1)) := f2_fF_b1_com_example_tight_tree_tighttree_Block_parts.other W3 (Or.inl fN_b1_b5)
  have f3_fF_b1_com_example_tight_tree_tighttree_Block_placings : Fld Z h3 b1 "com/example/tight_tree/tighttree/Block" "placings" "[I" (.ref (w 0)) := f2_fF_b1_com_example_tight_tree_tighttree_Block_placings.other W3 (Or.inl fN_b1_b5)
  have f3_fF_b1_com_example_tight_tree_tighttree_Block_height : Fld Z h3 b1 "com/example/tight_tree/tighttree/Block" "height" "I" (.int (imax (0 : Int32) (u1 + (1 : Int32)))) := f2_fF_b1_com_example_tight_tree_tighttree_Block_height.other W3 (Or.inl fN_b1_b5)
  have f3_fF_b1_com_example_tight_tree_tighttree_Block_width : Fld Z h3 b1 "com/example/tight_tree/tighttree/Block" "width" "I" (.int (imax (0 : Int32) (u0 + (1 : Int32)))) := f2_fF_b1_com_example_tight_tree_tighttree_Block_width.other W3 (Or.inl fN_b1_b5)
  have f3_fF_b1_com_example_tight_tree_tighttree_Block_nodeCount : Fld Z h3 b1 "com/example/tight_tree/tighttree/Block" "nodeCount" "I" (.int (1 : Int32)) := f2_fF_b1_com_example_tight_tree_tighttree_Block_nodeCount.other W3 (Or.inl fN_b1_b5)
  have f3_fF_b1_com_example_tight_tree_tighttree_Block_runs : Fld Z h3 b1 "com/example/tight_tree/tighttree/Block" "runs" "Lcom/example/tight_tree/tighttree/Block$Run;" .null := f2_fF_b1_com_example_tight_tree_tighttree_Block_runs.other W3 (Or.inl fN_b1_b5)
  have f3_fA_b2 : Arv Z h3 b2 k1 .int (3 : Int32) [(.int (0 : Int32)), (.int u0), (.int u1)] (.int (0 : Int32)) := f2_fA_b2.other W3 fN_b2_b5
  have f3_fA_b3 : Arv Z h3 b3 k2 .int (0 : Int32) [] (.int (0 : Int32)) := f2_fA_b3.other W3 fN_b3_b5
  have f3_fA_b4 : Arv Z h3 b4 k3 .int (0 : Int32) [] (.int (0 : Int32)) := f2_fA_b4.other W3 fN_b4_b5
  have f3_fE_b5 : Exa Z h3 b5 "com/example/tight_tree/tighttree/Block$Run" := f2_fE_b5.wr W3
  have f3_fF_b5_com_example_tight_tree_tighttree_Block_Run_ids : Fld Z h3 b5 "com/example/tight_tree/tighttree/Block$Run" "ids" "[I" (.ref b3) := f2_fF_b5_com_example_tight_tree_tighttree_Block_Run_ids.other W3 (Or.inr (slot_ne (Or.inr (hw _ (List.mem_of_getElem? (i := 75) rfl))) (Or.inr (hw _ (List.mem_of_getElem? (i := 77) rfl))) (by decide) (t := (.array .int)) (t' := .int) (by decide) (by decide)))
  have f3_fF_b5_com_example_tight_tree_tighttree_Block_Run_count : Fld Z h3 b5 "com/example/tight_tree/tighttree/Block$Run" "count" "I" (.int (0 : Int32)) := f2_fF_b5_com_example_tight_tree_tighttree_Block_Run_count.same W3
  have f3_fF_b5_com_example_tight_tree_tighttree_Block_Run_offsets : Fld Z h3 b5 "com/example/tight_tree/tighttree/Block$Run" "offsets" "[I" .null := f2_fF_b5_com_example_tight_tree_tighttree_Block_Run_offsets.other W3 (Or.inr (slot_ne (Or.inr (hw _ (List.mem_of_getElem? (i := 79) rfl))) (Or.inr (hw _ (List.mem_of_getElem? (i := 77) rfl))) (by decide) (t := (.array .int)) (t' := .int) (by decide) (by decide)))
  have f3_fF_b5_com_example_tight_tree_tighttree_Block_Run_x : Fld Z h3 b5 "com/example/tight_tree/tighttree/Block$Run" "x" "I" (.int (0 : Int32)) := f2_fF_b5_com_example_tight_tree_tighttree_Block_Run_x.other W3 (Or.inr (slot_ne (Or.inr (hw _ (List.mem_of_getElem? (i := 81) rfl))) (Or.inr (hw _ (List.mem_of_getElem? (i := 77) rfl))) (by decide) (t := .int) (t' := .int) (by decide) (by decide)))
  have f3_fF_b5_com_example_tight_tree_tighttree_Block_Run_y : Fld Z h3 b5 "com/example/tight_tree/tighttree/Block$Run" "y" "I" (.int (0 : Int32)) := f2_fF_b5_com_example_tight_tree_tighttree_Block_Run_y.other W3 (Or.inr (slot_ne (Or.inr (hw _ (List.mem_of_getElem? (i := 83) rfl))) (Or.inr (hw _ (List.mem_of_getElem? (i := 77) rfl))) (by decide) (t := .int) (t' := .int) (by decide) (by decide)))
  have f3_fF_b5_com_example_tight_tree_tighttree_Block_Run_before : Fld Z h3 b5 "com/example/tight_tree/tighttree/Block$Run" "before" "Lcom/example/tight_tree/tighttree/Block$Run;" .null := f2_fF_b5_com_example_tight_tree_tighttree_Block_Run_before.other W3 (Or.inr (slot_ne (Or.inr (hw _ (List.mem_of_getElem? (i := 85) rfl))) (Or.inr (hw _ (List.mem_of_getElem? (i := 77) rfl))) (by decide) (t := (.object "com/example/tight_tree/tighttree/Block$Run")) (t' := .int) (by decide) (by decide)))
  have K3 := K2.wr W3 fKN_b5
  have Z3 : n0 ≤ h3.size := Nat.le_trans Z2 (Nat.le_of_eq W3.size.symm)
  have N3 := Fr.snoc X3 N2 fG_b5
  obtain ⟨T4, h4, X4, e4, W4, st4⟩ := putF X3 hx hZ hown (host := "") (Or.inl (hw _ (List.mem_of_getElem? (i := 78) rfl))) Via.refl e3 f3_fF_b5_com_example_tight_tree_tighttree_Block_Run_offsets f3_fE_b5 (Or.inr ⟨(hw _ (List.mem_of_getElem? (i := 79) rfl)), rfl, hnm⟩) (hw _ (List.mem_of_getElem? (i := 61) rfl)) (ty := (.array .int)) (by decide) rfl rfl (g := (mkF m 16 #[.val (.ref b5), .val (.ref b3), .val (.int (0 : Int32)), .val (.ref b4), .val (.int u2), .val (.int u3), .val .null] [(.ref b4), (.ref b5)])) rfl rfl (hb hby d_prog_10_method_1_code_16)
  have f4_fE_b1 : Exa Z h4 b1 "com/example/tight_tree/tighttree/Block" := f3_fE_b1.wr W4
  have f4_fF_b1_com_example_tight_tree_tighttree_Block_nodes : Fld Z h4 b1 "com/example/tight_tree/tighttree/Block" "nodes" "[I" (.ref b2) := f3_fF_b1_com_example_tight_tree_tighttree_Block_nodes.other W4 (Or.inl fN_b1_b5)
  have f4_fF_b1_com_example_tight_tree_tighttree_Block_parts : Fld Z h4 b1 "com/example/tight_tree/tighttree/Block" "parts" "[Lcom/example/tight_tree/tighttree/Block;" (.ref (w 1)) := f3_fF_b1_com_example_tight_tree_tighttree_Block_parts.other W4 (Or.inl fN_b1_b5)
  have f4_fF_b1_com_example_tight_tree_tighttree_Block_placings : Fld Z h4 b1 "com/example/tight_tree/tighttree/Block" "placings" "[I" (.ref (w 0)) := f3_fF_b1_com_example_tight_tree_tighttree_Block_placings.other W4 (Or.inl fN_b1_b5)
  have f4_fF_b1_com_example_tight_tree_tighttree_Block_height : Fld Z h4 b1 "com/example/tight_tree/tighttree/Block" "height" "I" (.int (imax (0 : Int32) (u1 + (1 : Int32)))) := f3_fF_b1_com_example_tight_tree_tighttree_Block_height.other W4 (Or.inl fN_b1_b5)
  have f4_fF_b1_com_example_tight_tree_tighttree_Block_width : Fld Z h4 b1 "com/example/tight_tree/tighttree/Block" "width" "I" (.int (imax (0 : Int32) (u0 + (1 : Int32)))) := f3_fF_b1_com_example_tight_tree_tighttree_Block_width.other W4 (Or.inl fN_b1_b5)
  have f4_fF_b1_com_example_tight_tree_tighttree_Block_nodeCount : Fld Z h4 b1 "com/example/tight_tree/tighttree/Block" "nodeCount" "I" (.int (1 : Int32)) := f3_fF_b1_com_example_tight_tree_tighttree_Block_nodeCount.other W4 (Or.inl fN_b1_b5)
  have f4_fF_b1_com_example_tight_tree_tighttree_Block_runs : Fld Z h4 b1 "com/example/tight_tree/tighttree/Block" "runs" "Lcom/example/tight_tree/tighttree/Block$Run;" .null := f3_fF_b1_com_example_tight_tree_tighttree_Block_runs.other W4 (Or.inl fN_b1_b5)
  have f4_fA_b2 : Arv Z h4 b2 k1 .int (3 : Int32) [(.int (0 : Int32)), (.int u0), (.int u1)] (.int (0 : Int32)) := f3_fA_b2.other W4 fN_b2_b5
  have f4_fA_b3 : Arv Z h4 b3 k2 .int (0 : Int32) [] (.int (0 : Int32)) := f3_fA_b3.other W4 fN_b3_b5
  have f4_fA_b4 : Arv Z h4 b4 k3 .int (0 : Int32) [] (.int (0 : Int32)) := f3_fA_b4.other W4 fN_b4_b5
  have f4_fE_b5 : Exa Z h4 b5 "com/example/tight_tree/tighttree/Block$Run" := f3_fE_b5.wr W4
  have f4_fF_b5_com_example_tight_tree_tighttree_Block_Run_ids : Fld Z h4 b5 "com/example/tight_tree/tighttree/Block$Run" "ids" "[I" (.ref b3) := f3_fF_b5_com_example_tight_tree_tighttree_Block_Run_ids.other W4 (Or.inr (slot_ne (Or.inr (hw _ (List.mem_of_getElem? (i := 75) rfl))) (Or.inr (hw _ (List.mem_of_getElem? (i := 79) rfl))) (by decide) (t := (.array .int)) (t' := (.array .int)) (by decide) (by decide)))
  have f4_fF_b5_com_example_tight_tree_tighttree_Block_Run_count : Fld Z h4 b5 "com/example/tight_tree/tighttree/Block$Run" "count" "I" (.int (0 : Int32)) := f3_fF_b5_com_example_tight_tree_tighttree_Block_Run_count.other W4 (Or.inr (slot_ne (Or.inr (hw _ (List.mem_of_getElem? (i := 77) rfl))) (Or.inr (hw _ (List.mem_of_getElem? (i := 79) rfl))) (by decide) (t := .int) (t' := (.array .int)) (by decide) (by decide)))
  have f4_fF_b5_com_example_tight_tree_tighttree_Block_Run_offsets : Fld Z h4 b5 "com/example/tight_tree/tighttree/Block$Run" "offsets" "[I" (.ref b4) := f3_fF_b5_com_example_tight_tree_tighttree_Block_Run_offsets.same W4
  have f4_fF_b5_com_example_tight_tree_tighttree_Block_Run_x : Fld Z h4 b5 "com/example/tight_tree/tighttree/Block$Run" "x" "I" (.int (0 : Int32)) := f3_fF_b5_com_example_tight_tree_tighttree_Block_Run_x.other W4 (Or.inr (slot_ne (Or.inr (hw _ (List.mem_of_getElem? (i := 81) rfl))) (Or.inr (hw _ (List.mem_of_getElem? (i := 79) rfl))) (by decide) (t := .int) (t' := (.array .int)) (by decide) (by decide)))
  have f4_fF_b5_com_example_tight_tree_tighttree_Block_Run_y : Fld Z h4 b5 "com/example/tight_tree/tighttree/Block$Run" "y" "I" (.int (0 : Int32)) := f3_fF_b5_com_example_tight_tree_tighttree_Block_Run_y.other W4 (Or.inr (slot_ne (Or.inr (hw _ (List.mem_of_getElem? (i := 83) rfl))) (Or.inr (hw _ (List.mem_of_getElem? (i := 79) rfl))) (by decide) (t := .int) (t' := (.array .int)) (by decide) (by decide)))
  have f4_fF_b5_com_example_tight_tree_tighttree_Block_Run_before : Fld Z h4 b5 "com/example/tight_tree/tighttree/Block$Run" "before" "Lcom/example/tight_tree/tighttree/Block$Run;" .null := f3_fF_b5_com_example_tight_tree_tighttree_Block_Run_before.other W4 (Or.inr (slot_ne (Or.inr (hw _ (List.mem_of_getElem? (i := 85) rfl))) (Or.inr (hw _ (List.mem_of_getElem? (i := 79) rfl))) (by decide) (t := (.object "com/example/tight_tree/tighttree/Block$Run")) (t' := (.array .int)) (by decide) (by decide)))
  have K4 := K3.wr W4 fKN_b5
  have Z4 : n0 ≤ h4.size := Nat.le_trans Z3 (Nat.le_of_eq W4.size.symm)
  have N4 := Fr.snoc X4 N3 fG_b5
  obtain ⟨T5, h5, X5, e5, W5, st5⟩ := putF X4 hx hZ hown (host := "") (Or.inl (hw _ (List.mem_of_getElem? (i := 80) rfl))) Via.refl e4 f4_fF_b5_com_example_tight_tree_tighttree_Block_Run_x f4_fE_b5 (Or.inr ⟨(hw _ (List.mem_of_getElem? (i := 81) rfl)), rfl, hnm⟩) (hw _ (List.mem_of_getElem? (i := 61) rfl)) (ty := .int) (by decide) rfl rfl (g := (mkF m 22 #[.val (.ref b5), .val (.ref b3), .val (.int (0 : Int32)), .val (.ref b4), .val (.int u2), .val (.int u3), .val .null] [(.int u2), (.ref b5)])) rfl rfl (hb hby d_prog_10_method_1_code_22)
  have f5_fE_b1 : Exa Z h5 b1 "com/example/tight_tree/tighttree/Block" := f4_fE_b1.wr W5
  have f5_fF_b1_com_example_tight_tree_tighttree_Block_nodes : Fld Z h5 b1 "com/example/tight_tree/tighttree/Block" "nodes" "[I" (.ref b2) := f4_fF_b1_com_example_tight_tree_tighttree_Block_nodes.other W5 (Or.inl fN_b1_b5)
  have f5_fF_b1_com_example_tight_tree_tighttree_Block_parts : Fld Z h5 b1 "com/example/tight_tree/tighttree/Block" "parts" "[Lcom/example/tight_tree/tighttree/Block;" (.ref (w 1)) := f4_fF_b1_com_example_tight_tree_tighttree_Block_parts.other W5 (Or.inl fN_b1_b5)
  have f5_fF_b1_com_example_tight_tree_tighttree_Block_placings : Fld Z h5 b1 "com/example/tight_tree/tighttree/Block" "placings" "[I" (.ref (w 0)) := f4_fF_b1_com_example_tight_tree_tighttree_Block_placings.other W5 (Or.inl fN_b1_b5)
  have f5_fF_b1_com_example_tight_tree_tighttree_Block_height : Fld Z h5 b1 "com/example/tight_tree/tighttree/Block" "height" "I" (.int (imax (0 : Int32) (u1 + (1 : Int32)))) := f4_fF_b1_com_example_tight_tree_tighttree_Block_height.other W5 (Or.inl fN_b1_b5)
  have f5_fF_b1_com_example_tight_tree_tighttree_Block_width : Fld Z h5 b1 "com/example/tight_tree/tighttree/Block" "width" "I" (.int (imax (0 : Int32) (u0 + (1 : Int32)))) := f4_fF_b1_com_example_tight_tree_tighttree_Block_width.other W5 (Or.inl fN_b1_b5)
  have f5_fF_b1_com_example_tight_tree_tighttree_Block_nodeCount : Fld Z h5 b1 "com/example/tight_tree/tighttree/Block" "nodeCount" "I" (.int (1 : Int32)) := f4_fF_b1_com_example_tight_tree_tighttree_Block_nodeCount.other W5 (Or.inl fN_b1_b5)
  have f5_fF_b1_com_example_tight_tree_tighttree_Block_runs : Fld Z h5 b1 "com/example/tight_tree/tighttree/Block" "runs" "Lcom/example/tight_tree/tighttree/Block$Run;" .null := f4_fF_b1_com_example_tight_tree_tighttree_Block_runs.other W5 (Or.inl fN_b1_b5)
  have f5_fA_b2 : Arv Z h5 b2 k1 .int (3 : Int32) [(.int (0 : Int32)), (.int u0), (.int u1)] (.int (0 : Int32)) := f4_fA_b2.other W5 fN_b2_b5
  have f5_fA_b3 : Arv Z h5 b3 k2 .int (0 : Int32) [] (.int (0 : Int32)) := f4_fA_b3.other W5 fN_b3_b5
  have f5_fA_b4 : Arv Z h5 b4 k3 .int (0 : Int32) [] (.int (0 : Int32)) := f4_fA_b4.other W5 fN_b4_b5
  have f5_fE_b5 : Exa Z h5 b5 "com/example/tight_tree/tighttree/Block$Run" := f4_fE_b5.wr W5
  have f5_fF_b5_com_example_tight_tree_tighttree_Block_Run_ids : Fld Z h5 b5 "com/example/tight_tree/tighttree/Block$Run" "ids" "[I" (.ref b3) := f4_fF_b5_com_example_tight_tree_tighttree_Block_Run_ids.other W5 (Or.inr (slot_ne (Or.inr (hw _ (List.mem_of_getElem? (i := 75) rfl))) (Or.inr (hw _ (List.mem_of_getElem? (i := 81) rfl))) (by decide) (t := (.array .int)) (t' := .int) (by decide) (by decide)))
  have f5_fF_b5_com_example_tight_tree_tighttree_Block_Run_count : Fld Z h5 b5 "com/example/tight_tree/tighttree/Block$Run" "count" "I" (.int (0 : Int32)) := f4_fF_b5_com_example_tight_tree_tighttree_Block_Run_count.other W5 (Or.inr (slot_ne (Or.inr (hw _ (List.mem_of_getElem? (i := 77) rfl))) (Or.inr (hw _ (List.mem_of_getElem? (i := 81) rfl))) (by decide) (t := .int) (t' := .int) (by decide) (by decide)))
  have f5_fF_b5_com_example_tight_tree_tighttree_Block_Run_offsets : Fld Z h5 b5 "com/example/tight_tree/tighttree/Block$Run" "offsets" "[I" (.ref b4) := f4_fF_b5_com_example_tight_tree_tighttree_Block_Run_offsets.other W5 (Or.inr (slot_ne (Or.inr (hw _ (List.mem_of_getElem? (i := 79) rfl))) (Or.inr (hw _ (List.mem_of_getElem? (i := 81) rfl))) (by decide) (t := (.array .int)) (t' := .int) (by decide) (by decide)))
  have f5_fF_b5_com_example_tight_tree_tighttree_Block_Run_x : Fld Z h5 b5 "com/example/tight_tree/tighttree/Block$Run" "x" "I" (.int u2) := f4_fF_b5_com_example_tight_tree_tighttree_Block_Run_x.same W5
  have f5_fF_b5_com_example_tight_tree_tighttree_Block_Run_y : Fld Z h5 b5 "com/example/tight_tree/tighttree/Block$Run" "y" "I" (.int (0 : Int32)) := f4_fF_b5_com_example_tight_tree_tighttree_Block_Run_y.other W5 (Or.inr (slot_ne (Or.inr (hw _ (List.mem_of_getElem? (i := 83) rfl))) (Or.inr (hw _ (List.mem_of_getElem? (i := 81) rfl))) (by decide) (t := .int) (t' := .int) (by decide) (by decide)))
  have f5_fF_b5_com_example_tight_tree_tighttree_Block_Run_before : Fld Z h5 b5 "com/example/tight_tree/tighttree/Block$Run" "before" "Lcom/example/tight_tree/tighttree/Block$Run;" .null := f4_fF_b5_com_example_tight_tree_tighttree_Block_Run_before.other W5 (Or.inr (slot_ne (Or.inr (hw _ (List.mem_of_getElem? (i := 85) rfl))) (Or.inr (hw _ (List.mem_of_getElem? (i := 81) rfl))) (by decide) (t := (.object "com/example/tight_tree/tighttree/Block$Run")) (t' := .int) (by decide) (by decide)))
  have K5 := K4.wr W5 fKN_b5
  have Z5 : n0 ≤ h5.size := Nat.le_trans Z4 (Nat.le_of_eq W5.size.symm)
  have N5 := Fr.snoc X5 N4 fG_b5
  obtain ⟨T6, h6, X6, e6, W6, st6⟩ := putF X5 hx hZ hown (host := "") (Or.inl (hw _ (List.mem_of_getElem? (i := 82) rfl))) Via.refl e5 f5_fF_b5_com_example_tight_tree_tighttree_Block_Run_y f5_fE_b5 (Or.inr ⟨(hw _ (List.mem_of_getElem? (i := 83) rfl)), rfl, hnm⟩) (hw _ (List.mem_of_getElem? (i := 61) rfl)) (ty := .int) (by decide) rfl rfl (g := (mkF m 28 #[.val (.ref b5), .val (.ref b3), .val (.int (0 : Int32)), .val (.ref b4), .val (.int u2), .val (.int u3), .val .null] [(.int u3), (.ref b5)])) rfl rfl (hb hby d_prog_10_method_1_code_28)
  have f6_fE_b1 : Exa Z h6 b1 "com/example/tight_tree/tighttree/Block" := f5_fE_b1.wr W6
  have f6_fF_b1_com_example_tight_tree_tighttree_Block_nodes : Fld Z h6 b1 "com/example/tight_tree/tighttree/Block" "nodes" "[I" (.ref b2) := f5_fF_b1_com_example_tight_tree_tighttree_Block_nodes.other W6 (Or.inl fN_b1_b5)
  have f6_fF_b1_com_example_tight_tree_tighttree_Block_parts : Fld Z h6 b1 "com/example/tight_tree/tighttree/Block" "parts" "[Lcom/example/tight_tree/tighttree/Block;" (.ref (w 1)) := f5_fF_b1_com_example_tight_tree_tighttree_Block_parts.other W6 (Or.inl fN_b1_b5)
  have f6_fF_b1_com_example_tight_tree_tighttree_Block_placings : Fld Z h6 b1 "com/example/tight_tree/tighttree/Block" "placings" "[I" (.ref (w 0)) := f5_fF_b1_com_example_tight_tree_tighttree_Block_placings.other W6 (Or.inl fN_b1_b5)
  have f6_fF_b1_com_example_tight_tree_tighttree_Block_height : Fld Z h6 b1 "com/example/tight_tree/tighttree/Block" "height" "I" (.int (imax (0 : Int32) (u1 + (1 : Int32)))) := f5_fF_b1_com_example_tight_tree_tighttree_Block_height.other W6 (Or.inl fN_b1_b5)
  have f6_fF_b1_com_example_tight_tree_tighttree_Block_width : Fld Z h6 b1 "com/example/tight_tree/tighttree/Block" "width" "I" (.int (imax (0 : Int32) (u0 + (1 : Int32)))) := f5_fF_b1_com_example_tight_tree_tighttree_Block_width.other W6 (Or.inl fN_b1_b5)
  have f6_fF_b1_com_example_tight_tree_tighttree_Block_nodeCount : Fld Z h6 b1 "com/example/tight_tree/tighttree/Block" "nodeCount" "I" (.int (1 : Int32)) := f5_fF_b1_com_example_tight_tree_tighttree_Block_nodeCount.other W6 (Or.inl fN_b1_b5)
  have f6_fF_b1_com_example_tight_tree_tighttree_Block_runs : Fld Z h6 b1 "com/example/tight_tree/tighttree/Block" "runs" "Lcom/example/tight_tree/tighttree/Block$Run;" .null := f5_fF_b1_com_example_tight_tree_tighttree_Block_runs.other W6 (Or.inl fN_b1_b5)
  have f6_fA_b2 : Arv Z h6 b2 k1 .int (3 : Int32) [(.int (0 : Int32)), (.int u0), (.int u1)] (.int (0 : Int32)) := f5_fA_b2.other W6 fN_b2_b5
  have f6_fA_b3 : Arv Z h6 b3 k2 .int (0 : Int32) [] (.int (0 : Int32)) := f5_fA_b3.other W6 fN_b3_b5
  have f6_fA_b4 : Arv Z h6 b4 k3 .int (0 : Int32) [] (.int (0 : Int32)) := f5_fA_b4.other W6 fN_b4_b5
  have f6_fE_b5 : Exa Z h6 b5 "com/example/tight_tree/tighttree/Block$Run" := f5_fE_b5.wr W6
  have f6_fF_b5_com_example_tight_tree_tighttree_Block_Run_ids : Fld Z h6 b5 "com/example/tight_tree/tighttree/Block$Run" "ids" "[I" (.ref b3) := f5_fF_b5_com_example_tight_tree_tighttree_Block_Run_ids.other W6 (Or.inr (slot_ne (Or.inr (hw _ (List.mem_of_getElem? (i := 75) rfl))) (Or.inr (hw _ (List.mem_of_getElem? (i := 83) rfl))) (by decide) (t := (.array .int)) (t' := .int) (by decide) (by decide)))
  have f6_fF_b5_com_example_tight_tree_tighttree_Block_Run_count : Fld Z h6 b5 "com/example/tight_tree/tighttree/Block$Run" "count" "I" (.int (0 : Int32)) := f5_fF_b5_com_example_tight_tree_tighttree_Block_Run_count.other W6 (Or.inr (slot_ne (Or.inr (hw _ (List.mem_of_getElem? (i := 77) rfl))) (Or.inr (hw _ (List.mem_of_getElem? (i := 83) rfl))) (by decide) (t := .int) (t' := .int) (by decide) (by decide)))
  have f6_fF_b5_com_example_tight_tree_tighttree_Block_Run_offsets : Fld Z h6 b5 "com/example/tight_tree/tighttree/Block$Run" "offsets" "[I" (.ref b4) := f5_fF_b5_com_example_tight_tree_tighttree_Block_Run_offsets.other W6 (Or.inr (slot_ne (Or.inr (hw _ (List.mem_of_getElem? (i := 79) rfl))) (Or.inr (hw _ (List.mem_of_getElem? (i := 83) rfl))) (by decide) (t := (.array .int)) (t' := .int) (by decide) (by decide)))
  have f6_fF_b5_com_example_tight_tree_tighttree_Block_Run_x : Fld Z h6 b5 "com/example/tight_tree/tighttree/Block$Run" "x" "I" (.int u2) := f5_fF_b5_com_example_tight_tree_tighttree_Block_Run_x.other W6 (Or.inr (slot_ne (Or.inr (hw _ (List.mem_of_getElem? (i := 81) rfl))) (Or.inr (hw _ (List.mem_of_getElem? (i := 83) rfl))) (by decide) (t := .int) (t' := .int) (by decide) (by decide)))
  have f6_fF_b5_com_example_tight_tree_tighttree_Block_Run_y : Fld Z h6 b5 "com/example/tight_tree/tighttree/Block$Run" "y" "I" (.int u3) := f5_fF_b5_com_example_tight_tree_tighttree_Block_Run_y.same W6
  have f6_fF_b5_com_example_tight_tree_tighttree_Block_Run_before : Fld Z h6 b5 "com/example/tight_tree/tighttree/Block$Run" "before" "Lcom/example/tight_tree/tighttree/Block$Run;" .null := f5_fF_b5_com_example_tight_tree_tighttree_Block_Run_before.other W6 (Or.inr (slot_ne (Or.inr (hw _ (List.mem_of_getElem? (i := 85) rfl))) (Or.inr (hw _ (List.mem_of_getElem? (i := 83) rfl))) (by decide) (t := (.object "com/example/tight_tree/tighttree/Block$Run")) (t' := .int) (by decide) (by decide)))
  have K6 := K5.wr W6 fKN_b5
  have Z6 : n0 ≤ h6.size := Nat.le_trans Z5 (Nat.le_of_eq W6.size.symm)
  have N6 := Fr.snoc X6 N5 fG_b5
  obtain ⟨T7, h7, X7, e7, W7, st7⟩ := putF X6 hx hZ hown (host := "") (Or.inl (hw _ (List.mem_of_getElem? (i := 84) rfl))) Via.refl e6 f6_fF_b5_com_example_tight_tree_tighttree_Block_Run_before f6_fE_b5 (Or.inr ⟨(hw _ (List.mem_of_getElem? (i := 85) rfl)), rfl, hnm⟩) (hw _ (List.mem_of_getElem? (i := 61) rfl)) (ty := (.object "com/example/tight_tree/tighttree/Block$Run")) (by decide) rfl rfl (g := (mkF m 34 #[.val (.ref b5), .val (.ref b3), .val (.int (0 : Int32)), .val (.ref b4), .val (.int u2), .val (.int u3), .val .null] [.null, (.ref b5)])) rfl rfl (hb hby d_prog_10_method_1_code_34)
  have f7_fE_b1 : Exa Z h7 b1 "com/example/tight_tree/tighttree/Block" := f6_fE_b1.wr W7
  have f7_fF_b1_com_example_tight_tree_tighttree_Block_nodes : Fld Z h7 b1 "com/example/tight_tree/tighttree/Block" "nodes" "[I" (.ref b2) := f6_fF_b1_com_example_tight_tree_tighttree_Block_nodes.other W7 (Or.inl fN_b1_b5)
  have f7_fF_b1_com_example_tight_tree_tighttree_Block_parts : Fld Z h7 b1 "com/example/tight_tree/tighttree/Block" "parts" "[Lcom/example/tight_tree/tighttree/Block;" (.ref (w 1)) := f6_fF_b1_com_example_tight_tree_tighttree_Block_parts.other W7 (Or.inl fN_b1_b5)
  have f7_fF_b1_com_example_tight_tree_tighttree_Block_placings : Fld Z h7 b1 "com/example/tight_tree/tighttree/Block" "placings" "[I" (.ref (w 0)) := f6_fF_b1_com_example_tight_tree_tighttree_Block_placings.other W7 (Or.inl fN_b1_b5)
  have f7_fF_b1_com_example_tight_tree_tighttree_Block_height : Fld Z h7 b1 "com/example/tight_tree/tighttree/Block" "height" "I" (.int (imax (0 : Int32) (u1 + (1 : Int32)))) := f6_fF_b1_com_example_tight_tree_tighttree_Block_height.other W7 (Or.inl fN_b1_b5)
  have f7_fF_b1_com_example_tight_tree_tighttree_Block_width : Fld Z h7 b1 "com/example/tight_tree/tighttree/Block" "width" "I" (.int (imax (0 : Int32) (u0 + (1 : Int32)))) := f6_fF_b1_com_example_tight_tree_tighttree_Block_width.other W7 (Or.inl fN_b1_b5)
  have f7_fF_b1_com_example_tight_tree_tighttree_Block_nodeCount : Fld Z h7 b1 "com/example/tight_tree/tighttree/Block" "nodeCount" "I" (.int (1 : Int32)) := f6_fF_b1_com_example_tight_tree_tighttree_Block_nodeCount.other W7 (Or.inl fN_b1_b5)
  have f7_fF_b1_com_example_tight_tree_tighttree_Block_runs : Fld Z h7 b1 "com/example/tight_tree/tighttree/Block" "runs" "Lcom/example/tight_tree/tighttree/Block$Run;" .null := f6_fF_b1_com_example_tight_tree_tighttree_Block_runs.other W7 (Or.inl fN_b1_b5)
  have f7_fA_b2 : Arv Z h7 b2 k1 .int (3 : Int32) [(.int (0 : Int32)), (.int u0), (.int u1)] (.int (0 : Int32)) := f6_fA_b2.other W7 fN_b2_b5
  have f7_fA_b3 : Arv Z h7 b3 k2 .int (0 : Int32) [] (.int (0 : Int32)) := f6_fA_b3.other W7 fN_b3_b5
  have f7_fA_b4 : Arv Z h7 b4 k3 .int (0 : Int32) [] (.int (0 : Int32)) := f6_fA_b4.other W7 fN_b4_b5
  have f7_fE_b5 : Exa Z h7 b5 "com/example/tight_tree/tighttree/Block$Run" := f6_fE_b5.wr W7
  have f7_fF_b5_com_example_tight_tree_tighttree_Block_Run_ids : Fld Z h7 b5 "com/example/tight_tree/tighttree/Block$Run" "ids" "[I" (.ref b3) := f6_fF_b5_com_example_tight_tree_tighttree_Block_Run_ids.other W7 (Or.inr (slot_ne (Or.inr (hw _ (List.mem_of_getElem? (i := 75) rfl))) (Or.inr (hw _ (List.mem_of_getElem? (i := 85) rfl))) (by decide) (t := (.array .int)) (t' := (.object "com/example/tight_tree/tighttree/Block$Run")) (by decide) (by decide)))
  have f7_fF_b5_com_example_tight_tree_tighttree_Block_Run_count : Fld Z h7 b5 "com/example/tight_tree/tighttree/Block$Run" "count" "I" (.int (0 : Int32)) := f6_fF_b5_com_example_tight_tree_tighttree_Block_Run_count.other W7 (Or.inr (slot_ne (Or.inr (hw _ (List.mem_of_getElem? (i := 77) rfl))) (Or.inr (hw _ (List.mem_of_getElem? (i := 85) rfl))) (by decide) (t := .int) (t' := (.object "com/example/tight_tree/tighttree/Block$Run")) (by decide) (by decide)))
  have f7_fF_b5_com_example_tight_tree_tighttree_Block_Run_offsets : Fld Z h7 b5 "com/example/tight_tree/tighttree/Block$Run" "offsets" "[I" (.ref b4) := f6_fF_b5_com_example_tight_tree_tighttree_Block_Run_offsets.other W7 (Or.inr (slot_ne (Or.inr (hw _ (List.mem_of_getElem? (i := 79) rfl))) (Or.inr (hw _ (List.mem_of_getElem? (i := 85) rfl))) (by decide) (t := (.array .int)) (t' := (.object "com/example/tight_tree/tighttree/Block$Run")) (by decide) (by decide)))
  have f7_fF_b5_com_example_tight_tree_tighttree_Block_Run_x : Fld Z h7 b5 "com/example/tight_tree/tighttree/Block$Run" "x" "I" (.int u2) := f6_fF_b5_com_example_tight_tree_tighttree_Block_Run_x.other W7 (Or.inr (slot_ne (Or.inr (hw _ (List.mem_of_getElem? (i := 81) rfl))) (Or.inr (hw _ (List.mem_of_getElem? (i := 85) rfl))) (by decide) (t := .int) (t' := (.object "com/example/tight_tree/tighttree/Block$Run")) (by decide) (by decide)))
  have f7_fF_b5_com_example_tight_tree_tighttree_Block_Run_y : Fld Z h7 b5 "com/example/tight_tree/tighttree/Block$Run" "y" "I" (.int u3) := f6_fF_b5_com_example_tight_tree_tighttree_Block_Run_y.other W7 (Or.inr (slot_ne (Or.inr (hw _ (List.mem_of_getElem? (i := 83) rfl))) (Or.inr (hw _ (List.mem_of_getElem? (i := 85) rfl))) (by decide) (t := .int) (t' := (.object "com/example/tight_tree/tighttree/Block$Run")) (by decide) (by decide)))
  have f7_fF_b5_com_example_tight_tree_tighttree_Block_Run_before : Fld Z h7 b5 "com/example/tight_tree/tighttree/Block$Run" "before" "Lcom/example/tight_tree/tighttree/Block$Run;" .null := f6_fF_b5_com_example_tight_tree_tighttree_Block_Run_before.same W7
  have K7 := K6.wr W7 fKN_b5
  have Z7 : n0 ≤ h7.size := Nat.le_trans Z6 (Nat.le_of_eq W7.size.symm)
  have N7 := Fr.snoc X7 N6 fG_b5
  obtain ⟨fs, hr, hrun, hended, hW, hsame⟩ := X7.leave (v := none) (fun _ => rfl)
  refine ⟨_, _, pre0 _ ?_, hrun, hended, _, _, rfl, ?_, ⟨_, rfl⟩, hW, hsame.mono (by decide) (by decide)⟩
  · show Steps p.tables e below (s₁.setTop (mkF m 0 #[.val (.ref b5), .val (.ref b3), .val (.int (0 : Int32)), .val (.ref b4), .val (.int u2), .val (.int u3), .val .null] [])) _
    refine XS.aloadN X0.here hx rfl (hb hby d_prog_10_method_1_code_0) rfl rfl ?_
    show Steps p.tables e below (s₁.setTop (mkF m 1 #[.val (.ref b5), .val (.ref b3), .val (.int (0 : Int32)), .val (.ref b4), .val (.int u2), .val (.int u3), .val .null] [(.ref b5)])) _
    refine st1.trans ?_
    show Steps p.tables e below (T1.setTop (mkF m 4 #[.val (.ref b5), .val (.ref b3), .val (.int (0 : Int32)), .val (.ref b4), .val (.int u2), .val (.int u3), .val .null] [])) _
    refine XS.aloadN X1.here hx rfl (hb hby d_prog_10_method_1_code_4) rfl rfl ?_
    show Steps p.tables e below (T1.setTop (mkF m 5 #[.val (.ref b5), .val (.ref b3), .val (.int (0 : Int32)), .val (.ref b4), .val (.int u2), .val (.int u3), .val .null] [(.ref b5)])) _
    refine XS.aloadN X1.here hx rfl (hb hby d_prog_10_method_1_code_5) rfl rfl ?_
    show Steps p.tables e below (T1.setTop (mkF m 6 #[.val (.ref b5), .val (.ref b3), .val (.int (0 : Int32)), .val (.ref b4), .val (.int u2), .val (.int u3), .val .null] [(.ref b3), (.ref b5)])) _
    refine st2 _ ?_
    show Steps p.tables e below (T2.setTop (mkF m 9 #[.val (.ref b5), .val (.ref b3), .val (.int (0 : Int32)), .val (.ref b4), .val (.int u2), .val (.int u3), .val .null] [])) _
    refine XS.aloadN X2.here hx rfl (hb hby d_prog_10_method_1_code_9) rfl rfl ?_
    show Steps p.tables e below (T2.setTop (mkF m 10 #[.val (.ref b5), .val (.ref b3), .val (.int (0 : Int32)), .val (.ref b4), .val (.int u2), .val (.int u3), .val .null] [(.ref b5)])) _
    refine XS.iloadN X2.here hx rfl (hb hby d_prog_10_method_1_code_10) rfl ?_
    show Steps p.tables e below (T2.setTop (mkF m 11 #[.val (.ref b5), .val (.ref b3), .val (.int (0 : Int32)), .val (.ref b4), .val (.int u2), .val (.int u3), .val .null] [(.int (0 : Int32)), (.ref b5)])) _
    refine st3 _ ?_
    show Steps p.tables e below (T3.setTop (mkF m 14 #[.val (.ref b5), .val (.ref b3), .val (.int (0 : Int32)), .val (.ref b4), .val (.int u2), .val (.int u3), .val .null] [])) _
    refine XS.aloadN X3.here hx rfl (hb hby d_prog_10_method_1_code_14) rfl rfl ?_
    show Steps p.tables e below (T3.setTop (mkF m 15 #[.val (.ref b5), .val (.ref b3), .val (.int (0 : Int32)), .val (.ref b4), .val (.int u2), .val (.int u3), .val .null] [(.ref b5)])) _
    refine XS.aloadN X3.here hx rfl (hb hby d_prog_10_method_1_code_15) rfl rfl ?_
    show Steps p.tables e below (T3.setTop (mkF m 16 #[.val (.ref b5), .val (.ref b3), .val (.int (0 : Int32)), .val (.ref b4), .val (.int u2), .val (.int u3), .val .null] [(.ref b4), (.ref b5)])) _
    refine st4 _ ?_
    show Steps p.tables e below (T4.setTop (mkF m 19 #[.val (.ref b5), .val (.ref b3), .val (.int (0 : Int32)), .val (.ref b4), .val (.int u2), .val (.int u3), .val .null] [])) _
    refine XS.aloadN X4.here hx rfl (hb hby d_prog_10_method_1_code_19) rfl rfl ?_
    show Steps p.tables e below (T4.setTop (mkF m 20 #[.val (.ref b5), .val (.ref b3), .val (.int (0 : Int32)), .val (.ref b4), .val (.int u2), .val (.int u3), .val .null] [(.ref b5)])) _
    refine XS.iload X4.here hx rfl (hb hby d_prog_10_method_1_code_20) rfl ?_
    show Steps p.tables e below (T4.setTop (mkF m 22 #[.val (.ref b5), .val (.ref b3), .val (.int (0 : Int32)), .val (.ref b4), .val (.int u2), .val (.int u3), .val .null] [(.int u2), (.ref b5)])) _
    refine st5 _ ?_
    show Steps p.tables e below (T5.setTop (mkF m 25 #[.val (.ref b5), .val (.ref b3), .val (.int (0 : Int32)), .val (.ref b4), .val (.int u2), .val (.int u3), .val .null] [])) _
    refine XS.aloadN X5.here hx rfl (hb hby d_prog_10_method_1_code_25) rfl rfl ?_
    show Steps p.tables e below (T5.setTop (mkF m 26 #[.val (.ref b5), .val (.ref b3), .val (.int (0 : Int32)), .val (.ref b4), .val (.int u2), .val (.int u3), .val .null] [(.ref b5)])) _
    refine XS.iload X5.here hx rfl (hb hby d_prog_10_method_1_code_26) rfl ?_
    show Steps p.tables e below (T5.setTop (mkF m 28 #[.val (.ref b5), .val (.ref b3), .val (.int (0 : Int32)), .val (.ref b4), .val (.int u2), .val (.int u3), .val .null] [(.int u3), (.ref b5)])) _
    refine st6 _ ?_
    show Steps p.tables e below (T6.setTop (mkF m 31 #[.val (.ref b5), .val (.ref b3), .val (.int (0 : Int32)), .val (.ref b4), .val (.int u2), .val (.int u3), .val .null] [])) _
    refine XS.aloadN X6.here hx rfl (hb hby d_prog_10_method_1_code_31) rfl rfl ?_
    show Steps p.tables e below (T6.setTop (mkF m 32 #[.val (.ref b5), .val (.ref b3), .val (.int (0 : Int32)), .val (.ref b4), .val (.int u2), .val (.int u3), .val .null] [(.ref b5)])) _
    refine XS.aload X6.here hx rfl (hb hby d_prog_10_method_1_code_32) rfl rfl ?_
    show Steps p.tables e below (T6.setTop (mkF m 34 #[.val (.ref b5), .val (.ref b3), .val (.int (0 : Int32)), .val (.ref b4), .val (.int u2), .val (.int u3), .val .null] [.null, (.ref b5)])) _
    refine st7 _ ?_
    show Steps p.tables e below (T7.setTop (mkF m 37 #[.val (.ref b5), .val (.ref b3), .val (.int (0 : Int32)), .val (.ref b4), .val (.int u2), .val (.int u3), .val .null] [])) _
    exact X7.returnOut hx Bd.returns (hb hby d_prog_10_method_1_code_37) hr
  · show Q_rm__init__10 Z w κ n0 u0 u1 u2 u3 u4 u5 b1 b2 b3 b4 b5 k1 k2 k3 _ T7.heap _
    rw [e7]
    exact ⟨rfl, N7, Z7, K7, f7_fE_b1, f7_fF_b1_com_example_tight_tree_tighttree_Block_nodes, f7_fF_b1_com_example_tight_tree_tighttree_Block_parts, f7_fF_b1_com_example_tight_tree_tighttree_Block_placings, f7_fF_b1_com_example_tight_tree_tighttree_Block_height, f7_fF_b1_com_example_tight_tree_tighttree_Block_width, f7_fF_b1_com_example_tight_tree_tighttree_Block_nodeCount, f7_fF_b1_com_example_tight_tree_tighttree_Block_runs, f7_fA_b2, f7_fA_b3, f7_fA_b4, f7_fE_b5, f7_fF_b5_com_example_tight_tree_tighttree_Block_Run_ids, f7_fF_b5_com_example_tight_tree_tighttree_Block_Run_count, f7_fF_b5_com_example_tight_tree_tighttree_Block_Run_offsets, f7_fF_b5_com_example_tight_tree_tighttree_Block_Run_x, f7_fF_b5_com_example_tight_tree_tighttree_Block_Run_y, f7_fF_b5_com_example_tight_tree_tighttree_Block_Run_before⟩
theorem pd_285bII5bIIILcom2fexample2ftight_tree2ftighttree2fBlock24Run3b29V : parseMethodDescriptor "([II[IIILcom/example/tight_tree/tighttree/Block$Run;)V" = some ⟨[(.array .int), .int, (.array .int), .int, .int, (.object "com/example/tight_tree/tighttree/Block$Run")], none⟩ := by decide +kernel
theorem d_prog_7_method_5_code_19 : decode prog_7_method_5_code 19 = .ok (.putfield 67, 3) := by decide +kernel
theorem d_prog_7_method_5_code_22 : decode prog_7_method_5_code 22 = .ok (.aload_n 0, 1) := by decide +kernel
theorem d_prog_7_method_5_code_23 : decode prog_7_method_5_code 23 = .ok (.iload 4, 2) := by decide +kernel
theorem d_prog_7_method_5_code_25 : decode prog_7_method_5_code 25 = .ok (.iload 6, 2) := by decide +kernel
theorem d_prog_7_method_5_code_27 : decode prog_7_method_5_code 27 = .ok (.iadd, 1) := by decide +kernel
theorem d_prog_7_method_5_code_28 : decode prog_7_method_5_code 28 = .ok (.iload 5, 2) := by decide +kernel
theorem d_prog_7_method_5_code_30 : decode prog_7_method_5_code 30 = .ok (.iload 7, 2) := by decide +kernel
theorem d_prog_7_method_5_code_32 : decode prog_7_method_5_code 32 = .ok (.iadd, 1) := by decide +kernel
theorem d_prog_7_method_5_code_33 : decode prog_7_method_5_code 33 = .ok (.invokevirtual 61, 3) := by decide +kernel
def Q_rm_grow_11 (Z : State) (w : Nat → Addr) (κ : Nat → ClassId) (n0 : Nat) (u0 u1 u2 u3 u4 u5 : Int32) (b1 : Addr) (b2 : Addr) (b3 : Addr) (b4 : Addr) (b5 : Addr) (k1 : ClassId) (k2 : ClassId) (k3 : ClassId) (v : Option Value) (h : Heap) (L : List Loc) : Prop := (v = none) ∧ (Fr n0 L) ∧ (n0 ≤ h.size) ∧ (Kon Z h w κ) ∧ (Exa Z h b1 "com/example/tight_tree/tighttree/Block") ∧ (Fld Z h b1 "com/example/tight_tree/tighttree/Block" "nodes" "[I" (.ref b2)) ∧ (Fld Z h b1 "com/example/tight_tree/tighttree/Block" "parts" "[Lcom/example/tight_tree/tighttree/Block;" (.ref (w 1))) ∧ (Fld Z h b1 "com/example/tight_tree/tighttree/Block" "placings" "[I" (.ref (w 0))) ∧ (Fld Z h b1 "com/example/tight_tree/tighttree/Block" "height" "I" (.int (imax (imax (0 : Int32) (u1 + (1 : Int32))) (u3 + u5)))) ∧ (Fld Z h b1 "com/example/tight_tree/tighttree/Block" "width" "I" (.int (imax (imax (0 : Int32) (u0 + (1 : Int32))) (u2 + u4)))) ∧ (Fld Z h b1 "com/example/tight_tree/tighttree/Block" "nodeCount" "I" (.int (1 : Int32))) ∧ (Fld Z h b1 "com/example/tight_tree/tighttree/Block" "runs" "Lcom/example/tight_tree/tighttree/Block$Run;" (.ref b5)) ∧ (Arv Z h b2 k1 .int (3 : Int32) [(.int (0 : Int32)), (.int u0), (.int u1)] (.int (0 : Int32))) ∧ (Arv Z h b3 k2 .int (0 : Int32) [] (.int (0 : Int32))) ∧ (Arv Z h b4 k3 .int (0 : Int32) [] (.int (0 : Int32))) ∧ (Exa Z h b5 "com/example/tight_tree/tighttree/Block$Run") ∧ (Fld Z h b5 "com/example/tight_tree/tighttree/Block$Run" "ids" "[I" (.ref b3)) ∧ (Fld Z h b5 "com/example/tight_tree/tighttree/Block$Run" "count" "I" (.int (0 : Int32))) ∧ (Fld Z h b5 "com/example/tight_tree/tighttree/Block$Run" "offsets" "[I" (.ref b4)) ∧ (Fld Z h b5 "com/example/tight_tree/tighttree/Block$Run" "x" "I" (.int u2)) ∧ (Fld Z h b5 "com/example/tight_tree/tighttree/Block$Run" "y" "I" (.int u3)) ∧ (Fld Z h b5 "com/example/tight_tree/tighttree/Block$Run" "before" "Lcom/example/tight_tree/tighttree/Block$Run;" .null)
set_option maxRecDepth 65536 in
set_option maxHeartbeats 40000000 in
theorem rm_grow_11 (l : Launch) (Z : State) (a0 : Array Value) (hw : ∀ d ∈ tables_1, d.before a0 Z = true) (w : Nat → Addr) (κ : Nat → ClassId) (h0 : Heap) (n0 : Nat) (Z0 : n0 ≤ h0.size) (K : Kon Z h0 w κ) (u0 u1 u2 u3 u4 u5 : Int32) (b1 : Addr) (b2 : Addr) (b3 : Addr) (b4 : Addr) (b5 : Addr) (k1 : ClassId) (k2 : ClassId) (k3 : ClassId) (fE_b1 : Exa Z h0 b1 "com/example/tight_tree/tighttree/Block") (fF_b1_com_example_tight_tree_tighttree_Block_nodes : Fld Z h0 b1 "com/example/tight_tree/tighttree/Block" "nodes" "[I" (.ref b2)) (fF_b1_com_example_tight_tree_tighttree_Block_parts : Fld Z h0 b1 "com/example/tight_tree/tighttree/Block" "parts" "[Lcom/example/tight_tree/tighttree/Block;" (.ref (w 1))) (fF_b1_com_example_tight_tree_tighttree_Block_placings : Fld Z h0 b1 "com/example/tight_tree/tighttree/Block" "placings" "[I" (.ref (w 0))) (fF_b1_com_example_tight_tree_tighttree_Block_height : Fld Z h0 b1 "com/example/tight_tree/tighttree/Block" "height" "I" (.int (imax (0 : Int32) (u1 + (1 : Int32))))) (fF_b1_com_example_tight_tree_tighttree_Block_width : Fld Z h0 b1 "com/example/tight_tree/tighttree/Block" "width" "I" (.int (imax (0 : Int32) (u0 + (1 : Int32))))) (fF_b1_com_example_tight_tree_tighttree_Block_nodeCount : Fld Z h0 b1 "com/example/tight_tree/tighttree/Block" "nodeCount" "I" (.int (1 : Int32))) (fF_b1_com_example_tight_tree_tighttree_Block_runs : Fld Z h0 b1 "com/example/tight_tree/tighttree/Block" "runs" "Lcom/example/tight_tree/tighttree/Block$Run;" (.ref b5)) (fA_b2 : Arv Z h0 b2 k1 .int (3 : Int32) [(.int (0 : Int32)), (.int u0), (.int u1)] (.int (0 : Int32))) (fA_b3 : Arv Z h0 b3 k2 .int (0 : Int32) [] (.int (0 : Int32))) (fA_b4 : Arv Z h0 b4 k3 .int (0 : Int32) [] (.int (0 : Int32))) (fE_b5 : Exa Z h0 b5 "com/example/tight_tree/tighttree/Block$Run") (fF_b5_com_example_tight_tree_tighttree_Block_Run_ids : Fld Z h0 b5 "com/example/tight_tree/tighttree/Block$Run" "ids" "[I" (.ref b3)) (fF_b5_com_example_tight_tree_tighttree_Block_Run_count : Fld Z h0 b5 "com/example/tight_tree/tighttree/Block$Run" "count" "I" (.int (0 : Int32))) (fF_b5_com_example_tight_tree_tighttree_Block_Run_offsets : Fld Z h0 b5 "com/example/tight_tree/tighttree/Block$Run" "offsets" "[I" (.ref b4)) (fF_b5_com_example_tight_tree_tighttree_Block_Run_x : Fld Z h0 b5 "com/example/tight_tree/tighttree/Block$Run" "x" "I" (.int u2)) (fF_b5_com_example_tight_tree_tighttree_Block_Run_y : Fld Z h0 b5 "com/example/tight_tree/tighttree/Block$Run" "y" "I" (.int u3)) (fF_b5_com_example_tight_tree_tighttree_Block_Run_before : Fld Z h0 b5 "com/example/tight_tree/tighttree/Block$Run" "before" "Lcom/example/tight_tree/tighttree/Block$Run;" .null) (fG_b1 : n0 ≤ b1) (fKN_b1 : ∀ i, i < 2 → w i ≠ b1) (fG_b2 : n0 ≤ b2) (fN_b1_b2 : b1 ≠ b2) (fKN_b2 : ∀ i, i < 2 → w i ≠ b2) (fG_b3 : n0 ≤ b3) (fN_b1_b3 : b1 ≠ b3) (fN_b2_b3 : b2 ≠ b3) (fKN_b3 : ∀ i, i < 2 → w i ≠ b3) (fG_b4 : n0 ≤ b4) (fN_b1_b4 : b1 ≠ b4) (fN_b2_b4 : b2 ≠ b4) (fN_b3_b4 : b3 ≠ b4) (fKN_b4 : ∀ i, i < 2 → w i ≠ b4) (fG_b5 : n0 ≤ b5) (fN_b1_b5 : b1 ≠ b5) (fN_b2_b5 : b2 ≠ b5) (fN_b3_b5 : b3 ≠ b5) (fN_b4_b5 : b4 ≠ b5) (fKN_b5 : ∀ i, i < 2 → w i ≠ b5) :
    OM l Z (⟨"com/example/tight_tree/tighttree/Block", "grow", "(II)V"⟩ : MethodName) prog_7_method_15_code 3 none [] ({ frames := 1, cells := 0, slots := 0, locals := 14 } : Room) #[(.ref b1), (.int (u2 + u4)), (.int (u3 + u5))] h0 (Q_rm_grow_11 Z w κ n0 u0 u1 u2 u3 u4 u5 b1 b2 b3 b4 b5 k1 k2 k3) := by
  refine MetFree.of_bodySF (plainFor_of_name pn_com_example_tight_tree_tighttree_Block) hisR ?_
  intro p e s m args below meth c s₁ Bd hml0 hP hK
  obtain ⟨rfl, hZ, hh⟩ := hP
  have hx := Bd.exec
  have hby := Bd.bytes
  have hml : c.maxLocals = 3 := hml0
  have hown : s.vm.findClass "com/example/tight_tree/tighttree/Block" = some m.cls := findClass_of_methodNamed Bd.named
  have hnm := (name_of_methodNamed Bd.named Bd.method).1
  have X0 : Stand p l e ({ frames := 1, cells := 0, slots := 0, locals := 14 } : Room) s m #[(.ref b1), (.int (u2 + u4)), (.int (u3 + u5))] below meth c s₁ [] 0 0 := Stand.of_body Bd
  have e0 : s₁.heap = h0 := by rw [← hh, Bd.state]; rfl
  have N0 := Fr.nil n0
  have pre0 : ∀ t, Steps p.tables e below (s₁.setTop (mkF m 0 #[.val (.ref b1), .val (.int (u2 + u4)), .val (.int (u3 + u5))] [])) t → Steps p.tables e below (s₁.setTop (entryFrame m #[(.ref b1), (.int (u2 + u4)), (.int (u3 + u5))] 3)) t := fun t k => castTop (by first | rfl | simp [entryFrame, mkF, argsToLocals, Value.category]) k
  obtain ⟨T1, X1, e1, st1⟩ := getF X0 hx hZ hown (host := "") (Or.inl (hw _ (List.mem_of_getElem? (i := 26) rfl))) Via.refl e0 fF_b1_com_example_tight_tree_tighttree_Block_width (g := (mkF m 2 #[.val (.ref b1), .val (.int (u2 + u4)), .val (.int (u3 + u5))] [(.ref b1), (.ref b1)])) rfl rfl (hb hby d_prog_7_method_15_code_2)
  obtain ⟨_, _, ⟨T2, L2, kk2, n2⟩, -, X2, ⟨Lc2, hQ2, l2, y2, z2⟩, st2⟩ := Jvm.LawKit.callS X1 hx (y := (⟨"java/lang/Math", "max", "(II)I"⟩ : MethodName)) hown (mvT hZ (hw _ (List.mem_of_getElem? (i := 35) rfl))) (mvT hZ (hw _ (List.mem_of_getElem? (i := 36) rfl))) (mvT hZ (hw _ (List.mem_of_getElem? (i := 37) rfl))) (mvT hZ (hw _ (List.mem_of_getElem? (i := 38) rfl))) (by decide) (backOf (W := 1) (rm_max l Z a0 hw w κ h0 n0 Z0 K (imax (0 : Int32) (u0 + (1 : Int32))) (u2 + u4)) hZ (hw _ (List.mem_of_getElem? (i := 38) rfl)) (hw _ (List.mem_of_getElem? (i := 37) rfl)) (by decide) (by decide)) (g := (mkF m 6 #[.val (.ref b1), .val (.int (u2 + u4)), .val (.int (u3 + u5))] [(.int (u2 + u4)), (.int (imax (0 : Int32) (u0 + (1 : Int32)))), (.ref b1)])) rfl (by rw [hml]; rfl) (argsL := [(.int (imax (0 : Int32) (u0 + (1 : Int32)))), (.int (u2 + u4))]) (rest := [(.ref b1)]) (lenOf pd_28II29I rfl) rfl (by show 2 * 0 + _ ≤ _; exact Nat.le_of_eq rfl) (hb hby d_prog_7_method_15_code_6) (fun _ _ => ⟨rfl, e1, (by decide : 0 + 0 ≤ _), (by decide : 0 + 0 ≤ _)⟩)
  dsimp only [Pt.U, Pt.locs, Pt.cells, Pt.slots] at X2 l2 y2 z2 st2 hQ2
  subst l2 y2 z2
  obtain ⟨rfl, N2q, e2⟩ := hQ2
  have N2 := Fr.app N0 N2q
  obtain ⟨T3, h3, X3, e3, W3, st3⟩ := putF X2 hx hZ hown (host := "") (Or.inl (hw _ (List.mem_of_getElem? (i := 26) rfl))) Via.refl e2 fF_b1_com_example_tight_tree_tighttree_Block_width fE_b1 (Or.inl (hw _ (List.mem_of_getElem? (i := 27) rfl))) (hw _ (List.mem_of_getElem? (i := 1) rfl)) (ty := .int) (by decide) rfl rfl (g := (mkF m 9 #[.val (.ref b1), .val (.int (u2 + u4)), .val (.int (u3 + u5))] [(.int (imax (imax (0 : Int32) (u0 + (1 : Int32))) (u2 + u4))), (.ref b1)])) rfl rfl (hb hby d_prog_7_method_15_code_9)
  have f3_fE_b1 : Exa Z h3 b1 "com/example/tight_tree/tighttree/Block" := fE_b1.wr W3
  have f3_fF_b1_com_example_tight_tree_tighttree_Block_nodes : Fld Z h3 b1 "com/example/tight_tree/tighttree/Block" "nodes" "[I" (.ref b2) := fF_b1_com_example_tight_tree_tighttree_Block_nodes.other W3 (Or.inr (slot_ne (Or.inl (hw _ (List.mem_of_getElem? (i := 12) rfl))) (Or.inl (hw _ (List.mem_of_getElem? (i := 27) rfl))) (by decide) (t := (.array .int)) (t' := .int) (by decide) (by decide)))
  have f3_fF_b1_com_example_tight_tree_tighttree_Block_parts : Fld Z h3 b1 "com/example/tight_tree/tighttree/Block" "parts" "[Lcom/example/tight_tree/tighttree/Block;" (.ref (w 1)) := fF_b1_com_example_tight_tree_tighttree_Block_parts.other W3 (Or.inr (slot_ne (Or.inl (hw _ (List.mem_of_getElem? (i := 16) rfl))) (Or.inl (hw _ (List.mem_of_getElem? (i := 27) rfl))) (by decide) (t := (.array (.object "com/example/tight_tree/tighttree/Block"))) (t' := .int) (by decide) (by decide)))
  have f3_fF_b1_com_example_tight_tree_tighttree_Block_placings : Fld Z h3 b1 "com/example/tight_tree/tighttree/Block" "placings" "[I" (.ref (w 0)) := fF_b1_com_example_tight_tree_tighttree_Block_placings.other W3 (Or.inr (slot_ne (Or.inl (hw _ (List.mem_of_getElem? (i := 18) rfl))) (Or.inl (hw _ (List.mem_of_getElem? (i := 27) rfl))) (by decide) (t := (.array .int)) (t' := .int) (by decide) (by decide)))
  have f3_fF_b1_com_example_tight_tree_tighttree_Block_height : Fld Z h3 b1 "com/example/tight_tree/tighttree/Block" "height" "I" (.int (imax (0 : Int32) (u1 + (1 : Int32)))) := fF_b1_com_example_tight_tree_tighttree_Block_height.other W3 (Or.inr (slot_ne (Or.inl (hw _ (List.mem_of_getElem? (i := 25) rfl))) (Or.inl (hw _ (List.mem_of_getElem? (i := 27) rfl))) (by decide) (t := .int) (t' := .int) (by decide) (by decide)))
  have f3_fF_b1_com_example_tight_tree_tighttree_Block_width : Fld Z h3 b1 "com/example/tight_tree/tighttree/Block" "width" "I" (.int (imax (imax (0 : Int32) (u0 + (1 : Int32))) (u2 + u4))) := fF_b1_com_example_tight_tree_tighttree_Block_width.same W3
  have f3_fF_b1_com_example_tight_tree_tighttree_Block_nodeCount : Fld Z h3 b1 "com/example/tight_tree/tighttree/Block" "nodeCount" "I" (.int (1 : Int32)) := fF_b1_com_example_tight_tree_tighttree_Block_nodeCount.other W3 (Or.inr (slot_ne (Or.inl (hw _ (List.mem_of_getElem? (i := 34) rfl))) (Or.inl (hw _ (List.mem_of_getElem? (i := 27) rfl))) (by decide) (t := .int) (t' := .int) (by decide) (by decide)))
  have f3_fF_b1_com_example_tight_tree_tighttree_Block_runs : Fld Z h3 b1 "com/example/tight_tree/tighttree/Block" "runs" "Lcom/example/tight_tree/tighttree/Block$Run;" (.ref b5) := fF_b1_com_example_tight_tree_tighttree_Block_runs.other W3 (Or.inr (slot_ne (Or.inl (hw _ (List.mem_of_getElem? (i := 64) rfl))) (Or.inl (hw _ (List.mem_of_getElem? (i := 27) rfl))) (by decide) (t := (.object "com/example/tight_tree/tighttree/Block$Run")) (t' := .int) (by decide) (by decide)))
  have f3_fA_b2 : Arv Z h3 b2 k1 .int (3 : Int32) [(.int (0 : Int32)), (.int u0), (.int u1)] (.int (0 : Int32)) := fA_b2.other W3 (Ne.symm fN_b1_b2)
  have f3_fA_b3 : Arv Z h3 b3 k2 .int (0 : Int32) [] (.int (0 : Int32)) := fA_b3.other W3 (Ne.symm fN_b1_b3)
  have f3_fA_b4 : Arv Z h3 b4 k3 .int (0 : Int32) [] (.int (0 : Int32)) := fA_b4.other W3 (Ne.symm fN_b1_b4)
  have f3_fE_b5 : Exa Z h3 b5 "com/example/tight_tree/tighttree/Block$Run" := fE_b5.wr W3
  have f3_fF_b5_com_example_tight_tree_tighttree_Block_Run_ids : Fld Z h3 b5 "com/example/tight_tree/tighttree/Block$Run" "ids" "[I" (.ref b3) := fF_b5_com_example_tight_tree_tighttree_Block_Run_ids.other W3 (Or.inl (Ne.symm fN_b1_b5))
  have f3_fF_b5_com_example_tight_tree_tighttree_Block_Run_count : Fld Z h3 b5 "com/example/tight_tree/tighttree/Block$Run" "count" "I" (.int (0 : Int32)) := fF_b5_com_example_tight_tree_tighttree_Block_Run_count.other W3 (Or.inl (Ne.symm fN_b1_b5))
  have f3_fF_b5_com_example_tight_tree_tighttree_Block_Run_offsets : Fld Z h3 b5 "com/example/tight_tree/tighttree/Block$Run" "offsets" "[I" (.ref b4) := fF_b5_com_example_tight_tree_tighttree_Block_Run_offsets.other W3 (Or.inl (Ne.symm fN_b1_b5))
  have f3_fF_b5_com_example_tight_tree_tighttree_Block_Run_x : Fld Z h3 b5 "com/example/tight_tree/tighttree/Block$Run" "x" "I" (.int u2) := fF_b5_com_example_tight_tree_tighttree_Block_Run_x.other W3 (Or.inl (Ne.symm fN_b1_b5))
  have f3_fF_b5_com_example_tight_tree_tighttree_Block_Run_y : Fld Z h3 b5 "com/example/tight_tree/tighttree/Block$Run" "y" "I" (.int u3) := fF_b5_com_example_tight_tree_tighttree_Block_Run_y.other W3 (Or.inl (Ne.symm fN_b1_b5))
  have f3_fF_b5_com_example_tight_tree_tighttree_Block_Run_before : Fld Z h3 b5 "com/example/tight_tree/tighttree/Block$Run" "before" "Lcom/example/tight_tree/tighttree/Block$Run;" .null := fF_b5_com_example_tight_tree_tighttree_Block_Run_before.other W3 (Or.inl (Ne.symm fN_b1_b5))
  have K3 := K.wr W3 fKN_b1
  have Z3 : n0 ≤ h3.size := Nat.le_trans Z0 (Nat.le_of_eq W3.size.symm)
  have N3 := Fr.snoc X3 N2 fG_b1
  obtain ⟨T4, X4, e4, st4⟩ := getF X3 hx hZ hown (host := "") (Or.inl (hw _ (List.mem_of_getElem? (i := 24) rfl))) Via.refl e3 f3_fF_b1_com_example_tight_tree_tighttree_Block_height (g := (mkF m 14 #[.val (.ref b1), .val (.int (u2 + u4)), .val (.int (u3 + u5))] [(.ref b1), (.ref b1)])) rfl rfl (hb hby d_prog_7_method_15_code_14)
  obtain ⟨_, _, ⟨T5, L5, kk5, n5⟩, -, X5, ⟨Lc5, hQ5, l5, y5, z5⟩, st5⟩ := Jvm.LawKit.callS X4 hx (y := (⟨"java/lang/Math", "max", "(II)I"⟩ : MethodName)) hown (mvT hZ (hw _ (List.mem_of_getElem? (i := 35) rfl))) (mvT hZ (hw _ (List.mem_of_getElem? (i := 36) rfl))) (mvT hZ (hw _ (List.mem_of_getElem? (i := 37) rfl))) (mvT hZ (hw _ (List.mem_of_getElem? (i := 38) rfl))) (by decide) (backOf (W := 1) (rm_max l Z a0 hw w κ h3 n0 Z3 K3 (imax (0 : Int32) (u1 + (1 : Int32))) (u3 + u5)) hZ (hw _ (List.mem_of_getElem? (i := 38) rfl)) (hw _ (List.mem_of_getElem? (i := 37) rfl)) (by decide) (by decide)) (g := (mkF m 18 #[.val (.ref b1), .val (.int (u2 + u4)), .val (.int (u3 + u5))] [(.int (u3 + u5)), (.int (imax (0 : Int32) (u1 + (1 : Int32)))), (.ref b1)])) rfl (by rw [hml]; rfl) (argsL := [(.int (imax (0 : Int32) (u1 + (1 : Int32)))), (.int (u3 + u5))]) (rest := [(.ref b1)]) (lenOf pd_28II29I rfl) rfl (by show 2 * 0 + _ ≤ _; exact Nat.le_of_eq rfl) (hb hby d_prog_7_method_15_code_18) (fun _ _ => ⟨rfl, e4, (by decide : 0 + 0 ≤ _), (by decide : 0 + 0 ≤ _)⟩)
  dsimp only [Pt.U, Pt.locs, Pt.cells, Pt.slots] at X5 l5 y5 z5 st5 hQ5
  subst l5 y5 z5
  obtain ⟨rfl, N5q, e5⟩ := hQ5
  have N5 := Fr.app N3 N5q
  obtain ⟨T6, h6, X6, e6, W6, st6⟩ := putF X5 hx hZ hown (host := "") (Or.inl (hw _ (List.mem_of_getElem? (i := 24) rfl))) Via.refl e5 f3_fF_b1_com_example_tight_tree_tighttree_Block_height f3_fE_b1 (Or.inl (hw _ (List.mem_of_getElem? (i := 25) rfl))) (hw _ (List.mem_of_getElem? (i := 1) rfl)) (ty := .int) (by decide) rfl rfl (g := (mkF m 21 #[.val (.ref b1), .val (.int (u2 + u4)), .val (.int (u3 + u5))] [(.int (imax (imax (0 : Int32) (u1 + (1 : Int32))) (u3 + u5))), (.ref b1)])) rfl rfl (hb hby d_prog_7_method_15_code_21)
  have f6_fE_b1 : Exa Z h6 b1 "com/example/tight_tree/tighttree/Block" := f3_fE_b1.wr W6
  have f6_fF_b1_com_example_tight_tree_tighttree_Block_nodes : Fld Z h6 b1 "com/example/tight_tree/tighttree/Block" "nodes" "[I" (.ref b2) := f3_fF_b1_com_example_tight_tree_tighttree_Block_nodes.other W6 (Or.inr (slot_ne (Or.inl (hw _ (List.mem_of_getElem? (i := 12) rfl))) (Or.inl (hw _ (List.mem_of_getElem? (i := 25) rfl))) (by decide) (t := (.array .int)) (t' := .int) (by decide) (by decide)))
  have f6_fF_b1_com_example_tight_tree_tighttree_Block_parts : Fld Z h6 b1 "com/example/tight_tree/tighttree/Block" "parts" "[Lcom/example/tight_tree/tighttree/Block;" (.ref (w 1)) := f3_fF_b1_com_example_tight_tree_tighttree_Block_parts.other W6 (Or.inr (slot_ne (Or.inl (hw _ (List.mem_of_getElem? (i := 16) rfl))) (Or.inl (hw _ (List.mem_of_getElem? (i := 25) rfl))) (by decide) (t := (.array (.object "com/example/tight_tree/tighttree/Block"))) (t' := .int) (by decide) (by decide)))
  have f6_fF_b1_com_example_tight_tree_tighttree_Block_placings : Fld Z h6 b1 "com/example/tight_tree/tighttree/Block" "placings" "[I" (.ref (w 0)) := f3_fF_b1_com_example_tight_tree_tighttree_Block_placings.other W6 (Or.inr (slot_ne (Or.inl (hw _ (List.mem_of_getElem? (i := 18) rfl))) (Or.inl (hw _ (List.mem_of_getElem? (i := 25) rfl))) (by decide) (t := (.array .int)) (t' := .int) (by decide) (by decide)))
  have f6_fF_b1_com_example_tight_tree_tighttree_Block_height : Fld Z h6 b1 "com/example/tight_tree/tighttree/Block" "height" "I" (.int (imax (imax (0 : Int32) (u1 + (1 : Int32))) (u3 + u5))) := f3_fF_b1_com_example_tight_tree_tighttree_Block_height.same W6
  have f6_fF_b1_com_example_tight_tree_tighttree_Block_width : Fld Z h6 b1 "com/example/tight_tree/tighttree/Block" "width" "I" (.int (imax (imax (0 : Int32) (u0 + (1 : Int32))) (u2 + u4))) := f3_fF_b1_com_example_tight_tree_tighttree_Block_width.other W6 (Or.inr (slot_ne (Or.inl (hw _ (List.mem_of_getElem? (i := 27) rfl))) (Or.inl (hw _ (List.mem_of_getElem? (i := 25) rfl))) (by decide) (t := .int) (t' := .int) (by decide) (by decide)))
  have f6_fF_b1_com_example_tight_tree_tighttree_Block_nodeCount : Fld Z h6 b1 "com/example/tight_tree/tighttree/Block" "nodeCount" "I" (.int (1 : Int32)) := f3_fF_b1_com_example_tight_tree_tighttree_Block_nodeCount.other W6 (Or.inr (slot_ne (Or.inl (hw _ (List.mem_of_getElem? (i := 34) rfl))) (Or.inl (hw _ (List.mem_of_getElem? (i := 25) rfl))) (by decide) (t := .int) (t' := .int) (by decide) (by decide)))
  have f6_fF_b1_com_example_tight_tree_tighttree_Block_runs : Fld Z h6 b1 "com/example/tight_tree/tighttree/Block" "runs" "Lcom/example/tight_tree/tighttree/Block$Run;" (.ref b5) := f3_fF_b1_com_example_tight_tree_tighttree_Block_runs.other W6 (Or.inr (slot_ne (Or.inl (hw _ (List.mem_of_getElem? (i := 64) rfl))) (Or.inl (hw _ (List.mem_of_getElem? (i := 25) rfl))) (by decide) (t := (.object "com/example/tight_tree/tighttree/Block$Run")) (t' := .int) (by decide) (by decide)))
  have f6_fA_b2 : Arv Z h6 b2 k1 .int (3 : Int32) [(.int (0 : Int32)), (.int u0), (.int u1)] (.int (0 : Int32)) := f3_fA_b2.other W6 (Ne.symm fN_b1_b2)
  have f6_fA_b3 : Arv Z h6 b3 k2 .int (0 : Int32) [] (.int (0 : Int32)) := f3_fA_b3.other W6 (Ne.symm fN_b1_b3)
  have f6_fA_b4 : Arv Z h6 b4 k3 .int (0 : Int32) [] (.int (0 : Int32)) := f3_fA_b4.other W6 (Ne.symm fN_b1_b4)
  have f6_fE_b5 : Exa Z h6 b5 "com/example/tight_tree/tighttree/Block$Run" := f3_fE_b5.wr W6
  have f6_fF_b5_com_example_tight_tree_tighttree_Block_Run_ids : Fld Z h6 b5 "com/example/tight_tree/tighttree/Block$Run" "ids" "[I" (.ref b3) := f3_fF_b5_com_example_tight_tree_tighttree_Block_Run_ids.other W6 (Or.inl (Ne.symm fN_b1_b5))
  have f6_fF_b5_com_example_tight_tree_tighttree_Block_Run_count : Fld Z h6 b5 "com/example/tight_tree/tighttree/Block$Run" "count" "I" (.int (0 : Int32)) := f3_fF_b5_com_example_tight_tree_tighttree_Block_Run_count.other W6 (Or.inl (Ne.symm fN_b1_b5))
  have f6_fF_b5_com_example_tight_tree_tighttree_Block_Run_offsets : Fld Z h6 b5 "com/example/tight_tree/tighttree/Block$Run" "offsets" "[I" (.ref b4) := f3_fF_b5_com_example_tight_tree_tighttree_Block_Run_offsets.other W6 (Or.inl (Ne.symm fN_b1_b5))
  have f6_fF_b5_com_example_tight_tree_tighttree_Block_Run_x : Fld Z h6 b5 "com/example/tight_tree/tighttree/Block$Run" "x" "I" (.int u2) := f3_fF_b5_com_example_tight_tree_tighttree_Block_Run_x.other W6 (Or.inl (Ne.symm fN_b1_b5))
  have f6_fF_b5_com_example_tight_tree_tighttree_Block_Run_y : Fld Z h6 b5 "com/example/tight_tree/tighttree/Block$Run" "y" "I" (.int u3) := f3_fF_b5_com_example_tight_tree_tighttree_Block_Run_y.other W6 (Or.inl (Ne.symm fN_b1_b5))
  have f6_fF_b5_com_example_tight_tree_tighttree_Block_Run_before : Fld Z h6 b5 "com/example/tight_tree/tighttree/Block$Run" "before" "Lcom/example/tight_tree/tighttree/Block$Run;" .null := f3_fF_b5_com_example_tight_tree_tighttree_Block_Run_before.other W6 (Or.inl (Ne.symm fN_b1_b5))
  have K6 := K3.wr W6 fKN_b1
  have Z6 : n0 ≤ h6.size := Nat.le_trans Z3 (Nat.le_of_eq W6.size.symm)
  have N6 := Fr.snoc X6 N5 fG_b1
  obtain ⟨fs, hr, hrun, hended, hW, hsame⟩ := X6.leave (v := none) (fun _ => rfl)
  refine ⟨_, _, pre0 _ ?_, hrun, hended, _, _, rfl, ?_, ⟨_, rfl⟩, hW, hsame.mono (by decide) (by decide)⟩
  · show Steps p.tables e below (s₁.setTop (mkF m 0 #[.val (.ref b1), .val (.int (u2 + u4)), .val (.int (u3 + u5))] [])) _
    refine XS.aloadN X0.here hx rfl (hb hby d_prog_7_method_15_code_0) rfl rfl ?_
    show Steps p.tables e below (s₁.setTop (mkF m 1 #[.val (.ref b1), .val (.int (u2 + u4)), .val (.int (u3 + u5))] [(.ref b1)])) _
    refine XS.aloadN X0.here hx rfl (hb hby d_prog_7_method_15_code_1) rfl rfl ?_
    show Steps p.tables e below (s₁.setTop (mkF m 2 #[.val (.ref b1), .val (.int (u2 + u4)), .val (.int (u3 + u5))] [(.ref b1), (.ref b1)])) _
    refine st1 _ ?_
    show Steps p.tables e below (T1.setTop (mkF m 5 #[.val (.ref b1), .val (.int (u2 + u4)), .val (.int (u3 + u5))] [(.int (imax (0 : Int32) (u0 + (1 : Int32)))), (.ref b1)])) _
    refine XS.iloadN X1.here hx rfl (hb hby d_prog_7_method_15_code_5) rfl ?_
    show Steps p.tables e below (T1.setTop (mkF m 6 #[.val (.ref b1), .val (.int (u2 + u4)), .val (.int (u3 + u5))] [(.int (u2 + u4)), (.int (imax (0 : Int32) (u0 + (1 : Int32)))), (.ref b1)])) _
    refine st2 _ ?_
    show Steps p.tables e below (T2.setTop (mkF m 9 #[.val (.ref b1), .val (.int (u2 + u4)), .val (.int (u3 + u5))] [(.int (imax (imax (0 : Int32) (u0 + (1 : Int32))) (u2 + u4))), (.ref b1)])) _
    refine st3 _ ?_
    show Steps p.tables e below (T3.setTop (mkF m 12 #[.val (.ref b1), .val (.int (u2 + u4)), .val (.int (u3 + u5))] [])) _
    refine XS.aloadN X3.here hx rfl (hb hby d_prog_7_method_15_code_12) rfl rfl ?_
    show Steps p.tables e below (T3.setTop (mkF m 13 #[.val (.ref b1), .val (.int (u2 + u4)), .val (.int (u3 + u5))] [(.ref b1)])) _
    refine XS.aloadN X3.here hx rfl (hb hby d_prog_7_method_15_code_13) rfl rfl ?_
    show Steps p.tables e below (T3.setTop (mkF m 14 #[.val (.ref b1), .val (.int (u2 + u4)), .val (.int (u3 + u5))] [(.ref b1), (.ref b1)])) _
    refine st4 _ ?_
    show Steps p.tables e below (T4.setTop (mkF m 17 #[.val (.ref b1), .val (.int (u2 + u4)), .val (.int (u3 + u5))] [(.int (imax (0 : Int32) (u1 + (1 : Int32)))), (.ref b1)])) _
    refine XS.iloadN X4.here hx rfl (hb hby d_prog_7_method_15_code_17) rfl ?_
    show Steps p.tables e below (T4.setTop (mkF m 18 #[.val (.ref b1), .val (.int (u2 + u4)), .val (.int (u3 + u5))] [(.int (u3 + u5)), (.int (imax (0 : Int32) (u1 + (1 : Int32)))), (.ref b1)])) _
    refine st5 _ ?_
    show Steps p.tables e below (T5.setTop (mkF m 21 #[.val (.ref b1), .val (.int (u2 + u4)), .val (.int (u3 + u5))] [(.int (imax (imax (0 : Int32) (u1 + (1 : Int32))) (u3 + u5))), (.ref b1)])) _
    refine st6 _ ?_
    show Steps p.tables e below (T6.setTop (mkF m 24 #[.val (.ref b1), .val (.int (u2 + u4)), .val (.int (u3 + u5))] [])) _
    exact X6.returnOut hx Bd.returns (hb hby d_prog_7_method_15_code_24) hr
  · show Q_rm_grow_11 Z w κ n0 u0 u1 u2 u3 u4 u5 b1 b2 b3 b4 b5 k1 k2 k3 _ T6.heap _
    rw [e6]
    exact ⟨rfl, N6, Z6, K6, f6_fE_b1, f6_fF_b1_com_example_tight_tree_tighttree_Block_nodes, f6_fF_b1_com_example_tight_tree_tighttree_Block_parts, f6_fF_b1_com_example_tight_tree_tighttree_Block_placings, f6_fF_b1_com_example_tight_tree_tighttree_Block_height, f6_fF_b1_com_example_tight_tree_tighttree_Block_width, f6_fF_b1_com_example_tight_tree_tighttree_Block_nodeCount, f6_fF_b1_com_example_tight_tree_tighttree_Block_runs, f6_fA_b2, f6_fA_b3, f6_fA_b4, f6_fE_b5, f6_fF_b5_com_example_tight_tree_tighttree_Block_Run_ids, f6_fF_b5_com_example_tight_tree_tighttree_Block_Run_count, f6_fF_b5_com_example_tight_tree_tighttree_Block_Run_offsets, f6_fF_b5_com_example_tight_tree_tighttree_Block_Run_x, f6_fF_b5_com_example_tight_tree_tighttree_Block_Run_y, f6_fF_b5_com_example_tight_tree_tighttree_Block_Run_before⟩
theorem d_prog_7_method_5_code_36 : decode prog_7_method_5_code 36 = .ok (.return_, 1) := by decide +kernel
def Q_rm_addNodes_12 (Z : State) (w : Nat → Addr) (κ : Nat → ClassId) (n0 : Nat) (u0 u1 u2 u3 u4 u5 : Int32) (b1 : Addr) (b2 : Addr) (b3 : Addr) (b4 : Addr) (k1 : ClassId) (k2 : ClassId) (k3 : ClassId) (v : Option Value) (h : Heap) (L : List Loc) : Prop := ∃ b5 : Addr, (v = none) ∧ (Fr n0 L) ∧ (n0 ≤ h.size) ∧ (Kon Z h w κ) ∧ (Exa Z h b1 "com/example/tight_tree/tighttree/Block") ∧ (Fld Z h b1 "com/example/tight_tree/tighttree/Block" "nodes" "[I" (.ref b2)) ∧ (Fld Z h b1 "com/example/tight_tree/tighttree/Block" "parts" "[Lcom/example/tight_tree/tighttree/Block;" (.ref (w 1))) ∧ (Fld Z h b1 "com/example/tight_tree/tighttree/Block" "placings" "[I" (.ref (w 0))) ∧ (Fld Z h b1 "com/example/tight_tree/tighttree/Block" "height" "I" (.int (imax (imax (0 : Int32) (u1 + (1 : Int32))) (u3 + u5)))) ∧ (Fld Z h b1 "com/example/tight_tree/tighttree/Block" "width" "I" (.int (imax (imax (0 : Int32) (u0 + (1 : Int32))) (u2 + u4)))) ∧ (Fld Z h b1 "com/example/tight_tree/tighttree/Block" "nodeCount" "I" (.int (1 : Int32))) ∧ (Fld Z h b1 "com/example/tight_tree/tighttree/Block" "runs" "Lcom/example/tight_tree/tighttree/Block$Run;" (.ref b5)) ∧ (Arv Z h b2 k1 .int (3 : Int32) [(.int (0 : Int32)), (.int u0), (.int u1)] (.int (0 : Int32))) ∧ (Arv Z h b3 k2 .int (0 : Int32) [] (.int (0 : Int32))) ∧ (Arv Z h b4 k3 .int (0 : Int32) [] (.int (0 : Int32))) ∧ (Exa Z h b5 "com/example/tight_tree/tighttree/Block$Run") ∧ (Fld Z h b5 "com/example/tight_tree/tighttree/Block$Run" "ids" "[I" (.ref b3)) ∧ (Fld Z h b5 "com/example/tight_tree/tighttree/Block$Run" "count" "I" (.int (0 : Int32))) ∧ (Fld Z h b5 "com/example/tight_tree/tighttree/Block$Run" "offsets" "[I" (.ref b4)) ∧ (Fld Z h b5 "com/example/tight_tree/tighttree/Block$Run" "x" "I" (.int u2)) ∧ (Fld Z h b5 "com/example/tight_tree/tighttree/Block$Run" "y" "I" (.int u3)) ∧ (Fld Z h b5 "com/example/tight_tree/tighttree/Block$Run" "before" "Lcom/example/tight_tree/tighttree/Block$Run;" .null) ∧ (n0 ≤ b5) ∧ (b1 ≠ b5) ∧ (b2 ≠ b5) ∧ (b3 ≠ b5) ∧ (b4 ≠ b5) ∧ (∀ i, i < 2 → w i ≠ b5)
set_option maxRecDepth 65536 in
set_option maxHeartbeats 40000000 in
theorem rm_addNodes_12 (l : Launch) (Z : State) (a0 : Array Value) (hw : ∀ d ∈ tables_1, d.before a0 Z = true) (w : Nat → Addr) (κ : Nat → ClassId) (h0 : Heap) (n0 : Nat) (Z0 : n0 ≤ h0.size) (K : Kon Z h0 w κ) (u0 u1 u2 u3 u4 u5 : Int32) (b1 : Addr) (b2 : Addr) (b3 : Addr) (b4 : Addr) (k1 : ClassId) (k2 : ClassId) (k3 : ClassId) (fE_b1 : Exa Z h0 b1 "com/example/tight_tree/tighttree/Block") (fF_b1_com_example_tight_tree_tighttree_Block_nodes : Fld Z h0 b1 "com/example/tight_tree/tighttree/Block" "nodes" "[I" (.ref b2)) (fF_b1_com_example_tight_tree_tighttree_Block_parts : Fld Z h0 b1 "com/example/tight_tree/tighttree/Block" "parts" "[Lcom/example/tight_tree/tighttree/Block;" (.ref (w 1))) (fF_b1_com_example_tight_tree_tighttree_Block_placings : Fld Z h0 b1 "com/example/tight_tree/tighttree/Block" "placings" "[I" (.ref (w 0))) (fF_b1_com_example_tight_tree_tighttree_Block_height : Fld Z h0 b1 "com/example/tight_tree/tighttree/Block" "height" "I" (.int (imax (0 : Int32) (u1 + (1 : Int32))))) (fF_b1_com_example_tight_tree_tighttree_Block_width : Fld Z h0 b1 "com/example/tight_tree/tighttree/Block" "width" "I" (.int (imax (0 : Int32) (u0 + (1 : Int32))))) (fF_b1_com_example_tight_tree_tighttree_Block_nodeCount : Fld Z h0 b1 "com/example/tight_tree/tighttree/Block" "nodeCount" "I" (.int (1 : Int32))) (fF_b1_com_example_tight_tree_tighttree_Block_runs : Fld Z h0 b1 "com/example/tight_tree/tighttree/Block" "runs" "Lcom/example/tight_tree/tighttree/Block$Run;" .null) (fA_b2 : Arv Z h0 b2 k1 .int (3 : Int32) [(.int (0 : Int32)), (.int u0), (.int u1)] (.int (0 : Int32))) (fA_b3 : Arv Z h0 b3 k2 .int (0 : Int32) [] (.int (0 : Int32))) (fA_b4 : Arv Z h0 b4 k3 .int (0 : Int32) [] (.int (0 : Int32))) (fG_b1 : n0 ≤ b1) (fKN_b1 : ∀ i, i < 2 → w i ≠ b1) (fG_b2 : n0 ≤ b2) (fN_b1_b2 : b1 ≠ b2) (fKN_b2 : ∀ i, i < 2 → w i ≠ b2) (fG_b3 : n0 ≤ b3) (fN_b1_b3 : b1 ≠ b3) (fN_b2_b3 : b2 ≠ b3) (fKN_b3 : ∀ i, i < 2 → w i ≠ b3) (fG_b4 : n0 ≤ b4) (fN_b1_b4 : b1 ≠ b4) (fN_b2_b4 : b2 ≠ b4) (fN_b3_b4 : b3 ≠ b4) (fKN_b4 : ∀ i, i < 2 → w i ≠ b4) :
    OM l Z (⟨"com/example/tight_tree/tighttree/Block", "addNodes", "([II[IIIII)V"⟩ : MethodName) prog_7_method_5_code 8 none [] ({ frames := 3, cells := 1, slots := 6, locals := 44 } : Room) #[(.ref b1), (.ref b3), (.int (0 : Int32)), (.ref b4), (.int u2), (.int u3), (.int u4), (.int u5)] h0 (Q_rm_addNodes_12 Z w κ n0 u0 u1 u2 u3 u4 u5 b1 b2 b3 b4 k1 k2 k3) := by
  refine MetFree.of_bodySF (plainFor_of_name pn_com_example_tight_tree_tighttree_Block) hisR ?_
  intro p e s m args below meth c s₁ Bd hml0 hP hK
  obtain ⟨rfl, hZ, hh⟩ := hP
  have hx := Bd.exec
  have hby := Bd.bytes
  have hml : c.maxLocals = 8 := hml0
  have hown : s.vm.findClass "com/example/tight_tree/tighttree/Block" = some m.cls := findClass_of_methodNamed Bd.named
  have hnm := (name_of_methodNamed Bd.named Bd.method).1
  have X0 : Stand p l e ({ frames := 3, cells := 1, slots := 6, locals := 44 } : Room) s m #[(.ref b1), (.ref b3), (.int (0 : Int32)), (.ref b4), (.int u2), (.int u3), (.int u4), (.int u5)] below meth c s₁ [] 0 0 := Stand.of_body Bd
  have e0 : s₁.heap = h0 := by rw [← hh, Bd.state]; rfl
  have N0 := Fr.nil n0
  have pre0 : ∀ t, Steps p.tables e below (s₁.setTop (mkF m 0 #[.val (.ref b1), .val (.ref b3), .val (.int (0 : Int32)), .val (.ref b4), .val (.int u2), .val (.int u3), .val (.int u4), .val (.int u5)] [])) t → Steps p.tables e below (s₁.setTop (entryFrame m #[(.ref b1), (.ref b3), (.int (0 : Int32)), (.ref b4), (.int u2), (.int u3), (.int u4), (.int u5)] 8)) t := fun t k => castTop (by first | rfl | simp [entryFrame, mkF, argsToLocals, Value.category]) k
  obtain ⟨T1, h1, X1, e1, E1, A1, D1, -, st1⟩ := newO X0 hx hZ hown (hw _ (List.mem_of_getElem? (i := 60) rfl)) (hw _ (List.mem_of_getElem? (i := 61) rfl)) (hw _ (List.mem_of_getElem? (i := 62) rfl)) e0 (g := (mkF m 1 #[.val (.ref b1), .val (.ref b3), .val (.int (0 : Int32)), .val (.ref b4), .val (.int u2), .val (.int u3), .val (.int u4), .val (.int u5)] [(.ref b1)])) rfl (hb hby d_prog_7_method_5_code_1) (by decide) (by decide)
  obtain ⟨b5, g1⟩ : ∃ z, z = h0.size := ⟨_, rfl⟩
  rw [← g1] at A1 D1 st1
  have hG1 : n0 ≤ b5 := Nat.le_trans Z0 (Nat.le_of_eq g1.symm)
  have hN1_0 : b1 ≠ b5 := by rw [g1]; exact Nat.ne_of_lt fE_b1.lt
  have hN1_1 : b2 ≠ b5 := by rw [g1]; exact Nat.ne_of_lt fA_b2.lt
  have hN1_2 : b3 ≠ b5 := by rw [g1]; exact Nat.ne_of_lt fA_b3.lt
  have hN1_3 : b4 ≠ b5 := by rw [g1]; exact Nat.ne_of_lt fA_b4.lt
  have hKN1 : ∀ i, i < 2 → w i ≠ b5 := fun i hi => by rw [g1]; exact Nat.ne_of_lt (K.lt i hi)
  have f1_fE_b1 := fE_b1.ext E1
  have f1_fF_b1_com_example_tight_tree_tighttree_Block_nodes := fF_b1_com_example_tight_tree_tighttree_Block_nodes.ext E1
  have f1_fF_b1_com_example_tight_tree_tighttree_Block_parts := fF_b1_com_example_tight_tree_tighttree_Block_parts.ext E1
  have f1_fF_b1_com_example_tight_tree_tighttree_Block_placings := fF_b1_com_example_tight_tree_tighttree_Block_placings.ext E1
  have f1_fF_b1_com_example_tight_tree_tighttree_Block_height := fF_b1_com_example_tight_tree_tighttree_Block_height.ext E1
  have f1_fF_b1_com_example_tight_tree_tighttree_Block_width := fF_b1_com_example_tight_tree_tighttree_Block_width.ext E1
  have f1_fF_b1_com_example_tight_tree_tighttree_Block_nodeCount := fF_b1_com_example_tight_tree_tighttree_Block_nodeCount.ext E1
  have f1_fF_b1_com_example_tight_tree_tighttree_Block_runs := fF_b1_com_example_tight_tree_tighttree_Block_runs.ext E1
  have f1_fA_b2 := fA_b2.ext E1
  have f1_fA_b3 := fA_b3.ext E1
  have f1_fA_b4 := fA_b4.ext E1
  have K1 := K.ext E1
  have Z1 : n0 ≤ h1.size := Nat.le_trans Z0 E1.1
  have f1_ids : Fld Z h1 b5 "com/example/tight_tree/tighttree/Block$Run" "ids" "[I" .null := D1 (Or.inr (hw _ (List.mem_of_getElem? (i := 75) rfl))) (ty := (.array .int)) (by decide)
  have f1_count : Fld Z h1 b5 "com/example/tight_tree/tighttree/Block$Run" "count" "I" (.int (0 : Int32)) := D1 (Or.inr (hw _ (List.mem_of_getElem? (i := 77) rfl))) (ty := .int) (by decide)
  have f1_offsets : Fld Z h1 b5 "com/example/tight_tree/tighttree/Block$Run" "offsets" "[I" .null := D1 (Or.inr (hw _ (List.mem_of_getElem? (i := 79) rfl))) (ty := (.array .int)) (by decide)
  have f1_x : Fld Z h1 b5 "com/example/tight_tree/tighttree/Block$Run" "x" "I" (.int (0 : Int32)) := D1 (Or.inr (hw _ (List.mem_of_getElem? (i := 81) rfl))) (ty := .int) (by decide)
  have f1_y : Fld Z h1 b5 "com/example/tight_tree/tighttree/Block$Run" "y" "I" (.int (0 : Int32)) := D1 (Or.inr (hw _ (List.mem_of_getElem? (i := 83) rfl))) (ty := .int) (by decide)
  have f1_before : Fld Z h1 b5 "com/example/tight_tree/tighttree/Block$Run" "before" "Lcom/example/tight_tree/tighttree/Block$Run;" .null := D1 (Or.inr (hw _ (List.mem_of_getElem? (i := 85) rfl))) (ty := (.object "com/example/tight_tree/tighttree/Block$Run")) (by decide)
  obtain ⟨T2, X2, e2, st2⟩ := getF X1 hx hZ hown (host := "") (Or.inl (hw _ (List.mem_of_getElem? (i := 63) rfl))) Via.refl e1 f1_fF_b1_com_example_tight_tree_tighttree_Block_runs (g := (mkF m 13 #[.val (.ref b1), .val (.ref b3), .val (.int (0 : Int32)), .val (.ref b4), .val (.int u2), .val (.int u3), .val (.int u4), .val (.int u5)] [(.ref b1), (.int u3), (.int u2), (.ref b4), (.int (0 : Int32)), (.ref b3), (.ref b5), (.ref b5), (.ref b1)])) rfl rfl (hb hby d_prog_7_method_5_code_13)
  obtain ⟨_, _, ⟨T3, L3, kk3, n3⟩, -, X3, ⟨Lc3, hQ3, l3, y3, z3⟩, st3⟩ := Jvm.RoadKit.own_specialRef X2 hx (y := (⟨"com/example/tight_tree/tighttree/Block$Run", "<init>", "([II[IIILcom/example/tight_tree/tighttree/Block$Run;)V"⟩ : MethodName)) rfl hown (own_mvR hZ (hw _ (List.mem_of_getElem? (i := 66) rfl)) (by decide) (hw _ (List.mem_of_getElem? (i := 65) rfl))) (mvT hZ (hw _ (List.mem_of_getElem? (i := 66) rfl))) (mvT hZ (hw _ (List.mem_of_getElem? (i := 67) rfl))) (by decide) (backOf (W := 2) (rm__init__10 l Z a0 hw w κ h1 n0 Z1 K1 u0 u1 u2 u3 u4 u5 b1 b2 b3 b4 b5 k1 k2 k3 f1_fE_b1 f1_fF_b1_com_example_tight_tree_tighttree_Block_nodes f1_fF_b1_com_example_tight_tree_tighttree_Block_parts f1_fF_b1_com_example_tight_tree_tighttree_Block_placings f1_fF_b1_com_example_tight_tree_tighttree_Block_height f1_fF_b1_com_example_tight_tree_tighttree_Block_width f1_fF_b1_com_example_tight_tree_tighttree_Block_nodeCount f1_fF_b1_com_example_tight_tree_tighttree_Block_runs f1_fA_b2 f1_fA_b3 f1_fA_b4 A1 f1_ids f1_count f1_offsets f1_x f1_y f1_before fG_b1 fKN_b1 fG_b2 fN_b1_b2 fKN_b2 fG_b3 fN_b1_b3 fN_b2_b3 fKN_b3 fG_b4 fN_b1_b4 fN_b2_b4 fN_b3_b4 fKN_b4 hG1 hN1_0 hN1_1 hN1_2 hN1_3 hKN1) hZ (hw _ (List.mem_of_getElem? (i := 67) rfl)) (hw _ (List.mem_of_getElem? (i := 62) rfl)) (by decide) (by decide)) (g := (mkF m 16 #[.val (.ref b1), .val (.ref b3), .val (.int (0 : Int32)), .val (.ref b4), .val (.int u2), .val (.int u3), .val (.int u4), .val (.int u5)] [.null, (.int u3), (.int u2), (.ref b4), (.int (0 : Int32)), (.ref b3), (.ref b5), (.ref b5), (.ref b1)])) rfl (by rw [hml]; rfl) (Steps.refl _) (a := b5) (argsL := [(.ref b3), (.int (0 : Int32)), (.ref b4), (.int u2), (.int u3), .null]) (rest := [(.ref b5), (.ref b1)]) (lenOf pd_285bII5bIIILcom2fexample2ftight_tree2ftighttree2fBlock24Run3b29V rfl) rfl (by show 2 * 0 + _ ≤ _; exact Nat.le_of_eq rfl) (hb hby d_prog_7_method_5_code_16) (fun _ _ => ⟨rfl, e2, (by decide : 1 + 0 ≤ _), (by decide : 6 + 0 ≤ _)⟩)
  dsimp only [Pt.U, Pt.locs, Pt.cells, Pt.slots] at X3 l3 y3 z3 st3 hQ3
  subst l3 y3 z3
  obtain ⟨rfl, N3q, Z3, K3, f3_0, f3_1, f3_2, f3_3, f3_4, f3_5, f3_6, f3_7, f3_8, f3_9, f3_10, f3_11, f3_12, f3_13, f3_14, f3_15, f3_16, f3_17⟩ := hQ3
  have N3 := Fr.app N0 N3q
  obtain ⟨T4, h4, X4, e4, W4, st4⟩ := putF X3 hx hZ hown (host := "") (Or.inl (hw _ (List.mem_of_getElem? (i := 63) rfl))) Via.refl rfl f3_7 f3_0 (Or.inl (hw _ (List.mem_of_getElem? (i := 64) rfl))) (hw _ (List.mem_of_getElem? (i := 1) rfl)) (ty := (.object "com/example/tight_tree/tighttree/Block$Run")) (by decide) rfl rfl (g := (mkF m 19 #[.val (.ref b1), .val (.ref b3), .val (.int (0 : Int32)), .val (.ref b4), .val (.int u2), .val (.int u3), .val (.int u4), .val (.int u5)] [(.ref b5), (.ref b1)])) rfl rfl (hb hby d_prog_7_method_5_code_19)
  have f4_fE_b1 : Exa Z h4 b1 "com/example/tight_tree/tighttree/Block" := f3_0.wr W4
  have f4_fF_b1_com_example_tight_tree_tighttree_Block_nodes : Fld Z h4 b1 "com/example/tight_tree/tighttree/Block" "nodes" "[I" (.ref b2) := f3_1.other W4 (Or.inr (slot_ne (Or.inl (hw _ (List.mem_of_getElem? (i := 12) rfl))) (Or.inl (hw _ (List.mem_of_getElem? (i := 64) rfl))) (by decide) (t := (.array .int)) (t' := (.object "com/example/tight_tree/tighttree/Block$Run")) (by decide) (by decide)))
  have f4_fF_b1_com_example_tight_tree_tighttree_Block_parts : Fld Z h4 b1 "com/example/tight_tree/tighttree/Block" "parts" "[Lcom/example/tight_tree/tighttree/Block;" (.ref (w 1)) := f3_2.other W4 (Or.inr (slot_ne (Or.inl (hw _ (List.mem_of_getElem? (i := 16) rfl))) (Or.inl (hw _ (List.mem_of_getElem? (i := 64) rfl))) (by decide) (t := (.array (.object "com/example/tight_tree/tighttree/Block"))) (t' := (.object "com/example/tight_tree/tighttree/Block$Run")) (by decide) (by decide)))
  have f4_fF_b1_com_example_tight_tree_tighttree_Block_placings : Fld Z h4 b1 "com/example/tight_tree/tighttree/Block" "placings" "[I" (.ref (w 0)) := f3_3.other W4 (Or.inr (slot_ne (Or.inl (hw _ (List.mem_of_getElem? (i := 18) rfl))) (Or.inl (hw _ (List.mem_of_getElem? (i := 64) rfl))) (by decide) (t := (.array .int)) (t' := (.object "com/example/tight_tree/tighttree/Block$Run")) (by decide) (by decide)))
  have f4_fF_b1_com_example_tight_tree_tighttree_Block_height : Fld Z h4 b1 "com/example/tight_tree/tighttree/Block" "height" "I" (.int (imax (0 : Int32) (u1 + (1 : Int32)))) := f3_4.other W4 (Or.inr (slot_ne (Or.inl (hw _ (List.mem_of_getElem? (i := 25) rfl))) (Or.inl (hw _ (List.mem_of_getElem? (i := 64) rfl))) (by decide) (t := .int) (t' := (.object "com/example/tight_tree/tighttree/Block$Run")) (by decide) (by decide)))
  have f4_fF_b1_com_example_tight_tree_tighttree_Block_width : Fld Z h4 b1 "com/example/tight_tree/tighttree/Block" "width" "I" (.int (imax (0 : Int32) (u0 + (1 : Int32)))) := f3_5.other W4 (Or.inr (slot_ne (Or.inl (hw _ (List.mem_of_getElem? (i := 27) rfl))) (Or.inl (hw _ (List.mem_of_getElem? (i := 64) rfl))) (by decide) (t := .int) (t' := (.object "com/example/tight_tree/tighttree/Block$Run")) (by decide) (by decide)))
  have f4_fF_b1_com_example_tight_tree_tighttree_Block_nodeCount : Fld Z h4 b1 "com/example/tight_tree/tighttree/Block" "nodeCount" "I" (.int (1 : Int32)) := f3_6.other W4 (Or.inr (slot_ne (Or.inl (hw _ (List.mem_of_getElem? (i := 34) rfl))) (Or.inl (hw _ (List.mem_of_getElem? (i := 64) rfl))) (by decide) (t := .int) (t' := (.object "com/example/tight_tree/tighttree/Block$Run")) (by decide) (by decide)))
  have f4_fF_b1_com_example_tight_tree_tighttree_Block_runs : Fld Z h4 b1 "com/example/tight_tree/tighttree/Block" "runs" "Lcom/example/tight_tree/tighttree/Block$Run;" (.ref b5) := f3_7.same W4
  have f4_fA_b2 : Arv Z h4 b2 k1 .int (3 : Int32) [(.int (0 : Int32)), (.int u0), (.int u1)] (.int (0 : Int32)) := f3_8.other W4 (Ne.symm fN_b1_b2)
  have f4_fA_b3 : Arv Z h4 b3 k2 .int (0 : Int32) [] (.int (0 : Int32)) := f3_9.other W4 (Ne.symm fN_b1_b3)
  have f4_fA_b4 : Arv Z h4 b4 k3 .int (0 : Int32) [] (.int (0 : Int32)) := f3_10.other W4 (Ne.symm fN_b1_b4)
  have f4_fE_b5 : Exa Z h4 b5 "com/example/tight_tree/tighttree/Block$Run" := f3_11.wr W4
  have f4_fF_b5_com_example_tight_tree_tighttree_Block_Run_ids : Fld Z h4 b5 "com/example/tight_tree/tighttree/Block$Run" "ids" "[I" (.ref b3) := f3_12.other W4 (Or.inl (Ne.symm hN1_0))
  have f4_fF_b5_com_example_tight_tree_tighttree_Block_Run_count : Fld Z h4 b5 "com/example/tight_tree/tighttree/Block$Run" "count" "I" (.int (0 : Int32)) := f3_13.other W4 (Or.inl (Ne.symm hN1_0))
  have f4_fF_b5_com_example_tight_tree_tighttree_Block_Run_offsets : Fld Z h4 b5 "com/example/tight_tree/tighttree/Block$Run" "offsets" "[I" (.ref b4) := f3_14.other W4 (Or.inl (Ne.symm hN1_0))
  have f4_fF_b5_com_example_tight_tree_tighttree_Block_Run_x : Fld Z h4 b5 "com/example/tight_tree/tighttree/Block$Run" "x" "I" (.int u2) := f3_15.other W4 (Or.inl (Ne.symm hN1_0))
  have f4_fF_b5_com_example_tight_tree_tighttree_Block_Run_y : Fld Z h4 b5 "com/example/tight_tree/tighttree/Block$Run" "y" "I" (.int u3) := f3_16.other W4 (Or.inl (Ne.symm hN1_0))
  have f4_fF_b5_com_example_tight_tree_tighttree_Block_Run_before : Fld Z h4 b5 "com/example/tight_tree/tighttree/Block$Run" "before" "Lcom/example/tight_tree/tighttree/Block$Run;" .null := f3_17.other W4 (Or.inl (Ne.symm hN1_0))
  have K4 := K3.wr W4 fKN_b1
  have Z4 : n0 ≤ h4.size := Nat.le_trans Z3 (Nat.le_of_eq W4.size.symm)
  have N4 := Fr.snoc X4 N3 fG_b1
  obtain ⟨cq5, qa5, qb5⟩ := f4_fE_b1.cell
  obtain ⟨_, _, ⟨T5, L5, kk5, n5⟩, -, X5, ⟨Lc5, hQ5, l5, y5, z5⟩, st5⟩ := X4.privateBack hx (y := (⟨"com/example/tight_tree/tighttree/Block", "grow", "(II)V"⟩ : MethodName)) hown (mvT hZ (hw _ (List.mem_of_getElem? (i := 51) rfl))) (mvT hZ (hw _ (List.mem_of_getElem? (i := 52) rfl))) (Jvm.Kit.selects_private (by decide) (mvT hZ (hw _ (List.mem_of_getElem? (i := 1) rfl))) (mvP hZ (hw _ (List.mem_of_getElem? (i := 53) rfl))) (mvT hZ (hw _ (List.mem_of_getElem? (i := 52) rfl)))) (Cond.privateMethod_at (mvP hZ (hw _ (List.mem_of_getElem? (i := 53) rfl)) (args := #[]))) (mvT hZ (hw _ (List.mem_of_getElem? (i := 54) rfl))) (by decide) (backOf (W := 0) (rm_grow_11 l Z a0 hw w κ h4 n0 Z4 K4 u0 u1 u2 u3 u4 u5 b1 b2 b3 b4 b5 k1 k2 k3 f4_fE_b1 f4_fF_b1_com_example_tight_tree_tighttree_Block_nodes f4_fF_b1_com_example_tight_tree_tighttree_Block_parts f4_fF_b1_com_example_tight_tree_tighttree_Block_placings f4_fF_b1_com_example_tight_tree_tighttree_Block_height f4_fF_b1_com_example_tight_tree_tighttree_Block_width f4_fF_b1_com_example_tight_tree_tighttree_Block_nodeCount f4_fF_b1_com_example_tight_tree_tighttree_Block_runs f4_fA_b2 f4_fA_b3 f4_fA_b4 f4_fE_b5 f4_fF_b5_com_example_tight_tree_tighttree_Block_Run_ids f4_fF_b5_com_example_tight_tree_tighttree_Block_Run_count f4_fF_b5_com_example_tight_tree_tighttree_Block_Run_offsets f4_fF_b5_com_example_tight_tree_tighttree_Block_Run_x f4_fF_b5_com_example_tight_tree_tighttree_Block_Run_y f4_fF_b5_com_example_tight_tree_tighttree_Block_Run_before fG_b1 fKN_b1 fG_b2 fN_b1_b2 fKN_b2 fG_b3 fN_b1_b3 fN_b2_b3 fKN_b3 fG_b4 fN_b1_b4 fN_b2_b4 fN_b3_b4 fKN_b4 hG1 hN1_0 hN1_1 hN1_2 hN1_3 hKN1) hZ (hw _ (List.mem_of_getElem? (i := 54) rfl)) (hw _ (List.mem_of_getElem? (i := 2) rfl)) (by decide) (by decide)) (g := (mkF m 33 #[.val (.ref b1), .val (.ref b3), .val (.int (0 : Int32)), .val (.ref b4), .val (.int u2), .val (.int u3), .val (.int u4), .val (.int u5)] [(.int (u3 + u5)), (.int (u2 + u4)), (.ref b1)])) rfl (by rw [hml]; rfl) (Steps.refl _) (a := b1) (by rw [e4]; exact qa5) qb5 (argsL := [(.int (u2 + u4)), (.int (u3 + u5))]) (rest := []) (lenOf pd_28II29V rfl) rfl (by show 2 * 0 + _ ≤ _; exact Nat.le_of_eq rfl) (hb hby d_prog_7_method_5_code_33) (fun _ _ => ⟨rfl, e4, (by decide : 1 + 0 ≤ _), (by decide : 6 + 0 ≤ _)⟩)
  dsimp only [Pt.U, Pt.locs, Pt.cells, Pt.slots] at X5 l5 y5 z5 st5 hQ5
  subst l5 y5 z5
  obtain ⟨rfl, N5q, Z5, K5, f5_0, f5_1, f5_2, f5_3, f5_4, f5_5, f5_6, f5_7, f5_8, f5_9, f5_10, f5_11, f5_12, f5_13, f5_14, f5_15, f5_16, f5_17⟩ := hQ5
  have N5 := Fr.app N4 N5q
  obtain ⟨fs, hr, hrun, hended, hW, hsame⟩ := X5.leave (v := none) (fun _ => rfl)
  refine ⟨_, _, pre0 _ ?_, hrun, hended, _, _, rfl, ?_, ⟨_, rfl⟩, hW, hsame.mono (by decide) (by decide)⟩
  · show Steps p.tables e below (s₁.setTop (mkF m 0 #[.val (.ref b1), .val (.ref b3), .val (.int (0 : Int32)), .val (.ref b4), .val (.int u2), .val (.int u3), .val (.int u4), .val (.int u5)] [])) _
    refine XS.aloadN X0.here hx rfl (hb hby d_prog_7_method_5_code_0) rfl rfl ?_
    show Steps p.tables e below (s₁.setTop (mkF m 1 #[.val (.ref b1), .val (.ref b3), .val (.int (0 : Int32)), .val (.ref b4), .val (.int u2), .val (.int u3), .val (.int u4), .val (.int u5)] [(.ref b1)])) _
    refine st1 _ ?_
    show Steps p.tables e below (T1.setTop (mkF m 4 #[.val (.ref b1), .val (.ref b3), .val (.int (0 : Int32)), .val (.ref b4), .val (.int u2), .val (.int u3), .val (.int u4), .val (.int u5)] [(.ref b5), (.ref b1)])) _
    refine XS.dup X1.here hx rfl (hb hby d_prog_7_method_5_code_4) rfl rfl ?_
    show Steps p.tables e below (T1.setTop (mkF m 5 #[.val (.ref b1), .val (.ref b3), .val (.int (0 : Int32)), .val (.ref b4), .val (.int u2), .val (.int u3), .val (.int u4), .val (.int u5)] [(.ref b5), (.ref b5), (.ref b1)])) _
    refine XS.aloadN X1.here hx rfl (hb hby d_prog_7_method_5_code_5) rfl rfl ?_
    show Steps p.tables e below (T1.setTop (mkF m 6 #[.val (.ref b1), .val (.ref b3), .val (.int (0 : Int32)), .val (.ref b4), .val (.int u2), .val (.int u3), .val (.int u4), .val (.int u5)] [(.ref b3), (.ref b5), (.ref b5), (.ref b1)])) _
    refine XS.iloadN X1.here hx rfl (hb hby d_prog_7_method_5_code_6) rfl ?_
    show Steps p.tables e below (T1.setTop (mkF m 7 #[.val (.ref b1), .val (.ref b3), .val (.int (0 : Int32)), .val (.ref b4), .val (.int u2), .val (.int u3), .val (.int u4), .val (.int u5)] [(.int (0 : Int32)), (.ref b3), (.ref b5), (.ref b5), (.ref b1)])) _
    refine XS.aloadN X1.here hx rfl (hb hby d_prog_7_method_5_code_7) rfl rfl ?_
    show Steps p.tables e below (T1.setTop (mkF m 8 #[.val (.ref b1), .val (.ref b3), .val (.int (0 : Int32)), .val (.ref b4), .val (.int u2), .val (.int u3), .val (.int u4), .val (.int u5)] [(.ref b4), (.int (0 : Int32)), (.ref b3), (.ref b5), (.ref b5), (.ref b1)])) _
    refine XS.iload X1.here hx rfl (hb hby d_prog_7_method_5_code_8) rfl ?_
    show Steps p.tables e below (T1.setTop (mkF m 10 #[.val (.ref b1), .val (.ref b3), .val (.int (0 : Int32)), .val (.ref b4), .val (.int u2), .val (.int u3), .val (.int u4), .val (.int u5)] [(.int u2), (.ref b4), (.int (0 : Int32)), (.ref b3), (.ref b5), (.ref b5), (.ref b1)])) _
    refine XS.iload X1.here hx rfl (hb hby d_prog_7_method_5_code_10) rfl ?_
    show Steps p.tables e below (T1.setTop (mkF m 12 #[.val (.ref b1), .val (.ref b3), .val (.int (0 : Int32)), .val (.ref b4), .val (.int u2), .val (.int u3), .val (.int u4), .val (.int u5)] [(.int u3), (.int u2), (.ref b4), (.int (0 : Int32)), (.ref b3), (.ref b5), (.ref b5), (.ref b1)])) _
    refine XS.aloadN X1.here hx rfl (hb hby d_prog_7_method_5_code_12) rfl rfl ?_
    show Steps p.tables e below (T1.setTop (mkF m 13 #[.val (.ref b1), .val (.ref b3), .val (.int (0 : Int32)), .val (.ref b4), .val (.int u2), .val (.int u3), .val (.int u4), .val (.int u5)] [(.ref b1), (.int u3), (.int u2), (.ref b4), (.int (0 : Int32)), (.ref b3), (.ref b5), (.ref b5), (.ref b1)])) _
    refine st2 _ ?_
    show Steps p.tables e below (T2.setTop (mkF m 16 #[.val (.ref b1), .val (.ref b3), .val (.int (0 : Int32)), .val (.ref b4), .val (.int u2), .val (.int u3), .val (.int u4), .val (.int u5)] [.null, (.int u3), (.int u2), (.ref b4), (.int (0 : Int32)), (.ref b3), (.ref b5), (.ref b5), (.ref b1)])) _
    refine st3.trans ?_
    show Steps p.tables e below (T3.setTop (mkF m 19 #[.val (.ref b1), .val (.ref b3), .val (.int (0 : Int32)), .val (.ref b4), .val (.int u2), .val (.int u3), .val (.int u4), .val (.int u5)] [(.ref b5), (.ref b1)])) _
    refine st4 _ ?_
    show Steps p.tables e below (T4.setTop (mkF m 22 #[.val (.ref b1), .val (.ref b3), .val (.int (0 : Int32)), .val (.ref b4), .val (.int u2), .val (.int u3), .val (.int u4), .val (.int u5)] [])) _
    refine XS.aloadN X4.here hx rfl (hb hby d_prog_7_method_5_code_22) rfl rfl ?_
    show Steps p.tables e below (T4.setTop (mkF m 23 #[.val (.ref b1), .val (.ref b3), .val (.int (0 : Int32)), .val (.ref b4), .val (.int u2), .val (.int u3), .val (.int u4), .val (.int u5)] [(.ref b1)])) _
    refine XS.iload X4.here hx rfl (hb hby d_prog_7_method_5_code_23) rfl ?_
    show Steps p.tables e below (T4.setTop (mkF m 25 #[.val (.ref b1), .val (.ref b3), .val (.int (0 : Int32)), .val (.ref b4), .val (.int u2), .val (.int u3), .val (.int u4), .val (.int u5)] [(.int u2), (.ref b1)])) _
    refine XS.iload X4.here hx rfl (hb hby d_prog_7_method_5_code_25) rfl ?_
    show Steps p.tables e below (T4.setTop (mkF m 27 #[.val (.ref b1), .val (.ref b3), .val (.int (0 : Int32)), .val (.ref b4), .val (.int u2), .val (.int u3), .val (.int u4), .val (.int u5)] [(.int u4), (.int u2), (.ref b1)])) _
    refine XS.iadd X4.here hx rfl (hb hby d_prog_7_method_5_code_27) rfl ?_
    show Steps p.tables e below (T4.setTop (mkF m 28 #[.val (.ref b1), .val (.ref b3), .val (.int (0 : Int32)), .val (.ref b4), .val (.int u2), .val (.int u3), .val (.int u4), .val (.int u5)] [(.int (u2 + u4)), (.ref b1)])) _
    refine XS.iload X4.here hx rfl (hb hby d_prog_7_method_5_code_28) rfl ?_
    show Steps p.tables e below (T4.setTop (mkF m 30 #[.val (.ref b1), .val (.ref b3), .val (.int (0 : Int32)), .val (.ref b4), .val (.int u2), .val (.int u3), .val (.int u4), .val (.int u5)] [(.int u3), (.int (u2 + u4)), (.ref b1)])) _
    refine XS.iload X4.here hx rfl (hb hby d_prog_7_method_5_code_30) rfl ?_
    show Steps p.tables e below (T4.setTop (mkF m 32 #[.val (.ref b1), .val (.ref b3), .val (.int (0 : Int32)), .val (.ref b4), .val (.int u2), .val (.int u3), .val (.int u4), .val (.int u5)] [(.int u5), (.int u3), (.int (u2 + u4)), (.ref b1)])) _
    refine XS.iadd X4.here hx rfl (hb hby d_prog_7_method_5_code_32) rfl ?_
    show Steps p.tables e below (T4.setTop (mkF m 33 #[.val (.ref b1), .val (.ref b3), .val (.int (0 : Int32)), .val (.ref b4), .val (.int u2), .val (.int u3), .val (.int u4), .val (.int u5)] [(.int (u3 + u5)), (.int (u2 + u4)), (.ref b1)])) _
    refine st5.trans ?_
    show Steps p.tables e below (T5.setTop (mkF m 36 #[.val (.ref b1), .val (.ref b3), .val (.int (0 : Int32)), .val (.ref b4), .val (.int u2), .val (.int u3), .val (.int u4), .val (.int u5)] [])) _
    exact X5.returnOut hx Bd.returns (hb hby d_prog_7_method_5_code_36) hr
  · show Q_rm_addNodes_12 Z w κ n0 u0 u1 u2 u3 u4 u5 b1 b2 b3 b4 k1 k2 k3 _ T5.heap _
    exact ⟨b5, rfl, N5, Z5, K5, f5_0, f5_1, f5_2, f5_3, f5_4, f5_5, f5_6, f5_7, f5_8, f5_9, f5_10, f5_11, f5_12, f5_13, f5_14, f5_15, f5_16, f5_17, hG1, hN1_0, hN1_1, hN1_2, hN1_3, hKN1⟩
theorem pd_285bII5bIIIII29V : parseMethodDescriptor "([II[IIIII)V" = some ⟨[(.array .int), .int, (.array .int), .int, .int, .int, .int], none⟩ := by decide +kernel
set_option maxRecDepth 65536 in
set_option maxHeartbeats 40000000 in
theorem rm_height_13 (l : Launch) (Z : State) (a0 : Array Value) (hw : ∀ d ∈ tables_1, d.before a0 Z = true) (w : Nat → Addr) (κ : Nat → ClassId) (h0 : Heap) (n0 : Nat) (Z0 : n0 ≤ h0.size) (K : Kon Z h0 w κ) (u0 u1 u2 u3 u4 u5 : Int32) (b1 : Addr) (b2 : Addr) (b3 : Addr) (b4 : Addr) (b5 : Addr) (k1 : ClassId) (k2 : ClassId) (k3 : ClassId) (fF_b1_com_example_tight_tree_tighttree_Block_height : Fld Z h0 b1 "com/example/tight_tree/tighttree/Block" "height" "I" (.int (imax (imax (0 : Int32) (u1 + (1 : Int32))) (u3 + u5)))) :
    OM l Z (⟨"com/example/tight_tree/tighttree/Block", "height", "(Z)I"⟩ : MethodName) prog_7_method_11_code 2 (some .int) [] ({ frames := 0, cells := 0, slots := 0, locals := 0 } : Room) #[(.ref b1), (.int (0 : Int32))] h0 (OP (some (.int (imax (imax (0 : Int32) (u1 + (1 : Int32))) (u3 + u5)))) n0 h0) := by
  refine MetFree.of_bodySF (plainFor_of_name pn_com_example_tight_tree_tighttree_Block) hisR ?_
  intro p e s m args below meth c s₁ Bd hml0 hP hK
  obtain ⟨rfl, hZ, hh⟩ := hP
  have hx := Bd.exec
  have hby := Bd.bytes
  have hml : c.maxLocals = 2 := hml0
  have hown : s.vm.findClass "com/example/tight_tree/tighttree/Block" = some m.cls := findClass_of_methodNamed Bd.named
  have hnm := (name_of_methodNamed Bd.named Bd.method).1
  have X0 : Stand p l e ({ frames := 0, cells := 0, slots := 0, locals := 0 } : Room) s m #[(.ref b1), (.int (0 : Int32))] below meth c s₁ [] 0 0 := Stand.of_body Bd
  have e0 : s₁.heap = h0 := by rw [← hh, Bd.state]; rfl
  have N0 := Fr.nil n0
  have pre0 : ∀ t, Steps p.tables e below (s₁.setTop (mkF m 0 #[.val (.ref b1), .val (.int (0 : Int32))] [])) t → Steps p.tables e below (s₁.setTop (entryFrame m #[(.ref b1), (.int (0 : Int32))] 2)) t := fun t k => castTop (by first | rfl | simp [entryFrame, mkF, argsToLocals, Value.category]) k
  obtain ⟨T1, X1, e1, st1⟩ := getF X0 hx hZ hown (host := "") (Or.inl (hw _ (List.mem_of_getElem? (i := 24) rfl))) Via.refl e0 fF_b1_com_example_tight_tree_tighttree_Block_height (g := (mkF m 12 #[.val (.ref b1), .val (.int (0 : Int32))] [(.ref b1)])) rfl rfl (hb hby d_prog_7_method_11_code_12)
  obtain ⟨fs, hr, hrun, hended, hW, hsame⟩ := X1.leave (v := (some (.int (imax (imax (0 : Int32) (u1 + (1 : Int32))) (u3 + u5))))) (fun h => by rw [Bd.returns] at h; cases h)
  refine ⟨_, _, pre0 _ ?_, hrun, hended, _, _, rfl, ?_, ⟨_, rfl⟩, hW, hsame.mono (by decide) (by decide)⟩
  · show Steps p.tables e below (s₁.setTop (mkF m 0 #[.val (.ref b1), .val (.int (0 : Int32))] [])) _
    refine XS.iloadN X0.here hx rfl (hb hby d_prog_7_method_11_code_0) rfl ?_
    show Steps p.tables e below (s₁.setTop (mkF m 1 #[.val (.ref b1), .val (.int (0 : Int32))] [(.int (0 : Int32))])) _
    refine XS.ifYes X0.here hx rfl (pc0 := 1) (pc' := 11) rfl (hb hby d_prog_7_method_11_code_1) rfl ((if0 _ _).trans (teq (by decide : (0 : Int32) = (0 : Int32))).1) (by decide) (by decide) ?_
    show Steps p.tables e below (s₁.setTop (mkF m 11 #[.val (.ref b1), .val (.int (0 : Int32))] [])) _
    refine XS.aloadN X0.here hx rfl (hb hby d_prog_7_method_11_code_11) rfl rfl ?_
    show Steps p.tables e below (s₁.setTop (mkF m 12 #[.val (.ref b1), .val (.int (0 : Int32))] [(.ref b1)])) _
    refine st1 _ ?_
    show Steps p.tables e below (T1.setTop (mkF m 15 #[.val (.ref b1), .val (.int (0 : Int32))] [(.int (imax (imax (0 : Int32) (u1 + (1 : Int32))) (u3 + u5)))])) _
    exact retI X1 hx Bd.returns (hb hby d_prog_7_method_11_code_15) hr
  · exact ⟨rfl, N0, e1⟩
set_option maxRecDepth 65536 in
set_option maxHeartbeats 40000000 in
theorem rm_height_14 (l : Launch) (Z : State) (a0 : Array Value) (hw : ∀ d ∈ tables_1, d.before a0 Z = true) (w : Nat → Addr) (κ : Nat → ClassId) (h0 : Heap) (n0 : Nat) (Z0 : n0 ≤ h0.size) (K : Kon Z h0 w κ) (u0 u1 u2 u3 u4 u5 : Int32) (b1 : Addr) (b2 : Addr) (b3 : Addr) (b4 : Addr) (b5 : Addr) (k1 : ClassId) (k2 : ClassId) (k3 : ClassId) (fF_b1_com_example_tight_tree_tighttree_Block_width : Fld Z h0 b1 "com/example/tight_tree/tighttree/Block" "width" "I" (.int (imax (imax (0 : Int32) (u0 + (1 : Int32))) (u2 + u4)))) :
    OM l Z (⟨"com/example/tight_tree/tighttree/Block", "height", "(Z)I"⟩ : MethodName) prog_7_method_11_code 2 (some .int) [] ({ frames := 0, cells := 0, slots := 0, locals := 0 } : Room) #[(.ref b1), (.int (1 : Int32))] h0 (OP (some (.int (imax (imax (0 : Int32) (u0 + (1 : Int32))) (u2 + u4)))) n0 h0) := by
  refine MetFree.of_bodySF (plainFor_of_name pn_com_example_tight_tree_tighttree_Block) hisR ?_
  intro p e s m args below meth c s₁ Bd hml0 hP hK
  obtain ⟨rfl, hZ, hh⟩ := hP
  have hx := Bd.exec
  have hby := Bd.bytes
  have hml : c.maxLocals = 2 := hml0
  have hown : s.vm.findClass "com/example/tight_tree/tighttree/Block" = some m.cls := findClass_of_methodNamed Bd.named
  have hnm := (name_of_methodNamed Bd.named Bd.method).1
  have X0 : Stand p l e ({ frames := 0, cells := 0, slots := 0, locals := 0 } : Room) s m #[(.ref b1), (.int (1 : Int32))] below meth c s₁ [] 0 0 := Stand.of_body Bd
  have e0 : s₁.heap = h0 := by rw [← hh, Bd.state]; rfl
  have N0 := Fr.nil n0
  have pre0 : ∀ t, Steps p.tables e below (s₁.setTop (mkF m 0 #[.val (.ref b1), .val (.int (1 : Int32))] [])) t → Steps p.tables e below (s₁.setTop (entryFrame m #[(.ref b1), (.int (1 : Int32))] 2)) t := fun t k => castTop (by first | rfl | simp [entryFrame, mkF, argsToLocals, Value.category]) k
  obtain ⟨T1, X1, e1, st1⟩ := getF X0 hx hZ hown (host := "") (Or.inl (hw _ (List.mem_of_getElem? (i := 26) rfl))) Via.refl e0 fF_b1_com_example_tight_tree_tighttree_Block_width (g := (mkF m 5 #[.val (.ref b1), .val (.int (1 : Int32))] [(.ref b1)])) rfl rfl (hb hby d_prog_7_method_11_code_5)
  obtain ⟨fs, hr, hrun, hended, hW, hsame⟩ := X1.leave (v := (some (.int (imax (imax (0 : Int32) (u0 + (1 : Int32))) (u2 + u4))))) (fun h => by rw [Bd.returns] at h; cases h)
  refine ⟨_, _, pre0 _ ?_, hrun, hended, _, _, rfl, ?_, ⟨_, rfl⟩, hW, hsame.mono (by decide) (by decide)⟩
  · show Steps p.tables e below (s₁.setTop (mkF m 0 #[.val (.ref b1), .val (.int (1 : Int32))] [])) _
    refine XS.iloadN X0.here hx rfl (hb hby d_prog_7_method_11_code_0) rfl ?_
    show Steps p.tables e below (s₁.setTop (mkF m 1 #[.val (.ref b1), .val (.int (1 : Int32))] [(.int (1 : Int32))])) _
    refine XS.ifNo X0.here hx rfl (hb hby d_prog_7_method_11_code_1) rfl ((if0 _ _).trans (feq (by decide : ¬ ((1 : Int32) = (0 : Int32)))).1) ?_
    show Steps p.tables e below (s₁.setTop (mkF m 4 #[.val (.ref b1), .val (.int (1 : Int32))] [])) _
    refine XS.aloadN X0.here hx rfl (hb hby d_prog_7_method_11_code_4) rfl rfl ?_
    show Steps p.tables e below (s₁.setTop (mkF m 5 #[.val (.ref b1), .val (.int (1 : Int32))] [(.ref b1)])) _
    refine st1 _ ?_
    show Steps p.tables e below (T1.setTop (mkF m 8 #[.val (.ref b1), .val (.int (1 : Int32))] [(.int (imax (imax (0 : Int32) (u0 + (1 : Int32))) (u2 + u4)))])) _
    refine XS.goto X1.here hx rfl (pc0 := 8) (pc' := 15) rfl (hb hby d_prog_7_method_11_code_8) (by decide) (by decide) ?_
    show Steps p.tables e below (T1.setTop (mkF m 15 #[.val (.ref b1), .val (.int (1 : Int32))] [(.int (imax (imax (0 : Int32) (u0 + (1 : Int32))) (u2 + u4)))])) _
    exact retI X1 hx Bd.returns (hb hby d_prog_7_method_11_code_15) hr
  · exact ⟨rfl, N0, e1⟩
theorem pn_com_example_tight_tree_tighttree_BlockHeightPinLaw : plainName "com/example/tight_tree/tighttree/BlockHeightPinLaw" = true := by first | (simp [plainName, overriddenIn]; done) | decide +kernel
set_option maxRecDepth 65536 in
set_option maxHeartbeats 40000000 in
theorem rm0_15 (l : Launch) (Z : State) (a0 : Array Value) (hw : ∀ d ∈ tables_1, d.before a0 Z = true) (w : Nat → Addr) (κ : Nat → ClassId) (h0 : Heap) (n0 : Nat) (Z0 : n0 ≤ h0.size) (K : Kon Z h0 w κ) (u0 u1 u2 u3 u4 u5 : Int32) (hmx1 : (imax (imax (0 : Int32) (u1 + (1 : Int32))) (u3 + u5)) = (imax (0 : Int32) (imax (u1 + (1 : Int32)) (u3 + u5)))) (hmx2 : (imax (imax (0 : Int32) (u0 + (1 : Int32))) (u2 + u4)) = (imax (0 : Int32) (imax (u0 + (1 : Int32)) (u2 + u4)))) :
    OM l Z x code maxLocals ret tables_1 room_1 #[(.int u0), (.int u1), (.int u2), (.int u3), (.int u4), (.int u5)] h0 (OF (some (.int (1 : Int32))) n0) := by
  refine MetFree.of_bodySF (plainFor_of_name pn_com_example_tight_tree_tighttree_BlockHeightPinLaw) hisR ?_
  intro p e s m args below meth c s₁ Bd hml0 hP hK
  obtain ⟨rfl, hZ, hh⟩ := hP
  have hx := Bd.exec
  have hby := Bd.bytes
  have hml : c.maxLocals = 10 := hml0
  have hown : s.vm.findClass "com/example/tight_tree/tighttree/BlockHeightPinLaw" = some m.cls := findClass_of_methodNamed Bd.named
  have hnm := (name_of_methodNamed Bd.named Bd.method).1
  have X0 : Stand p l e room_1 s m #[(.int u0), (.int u1), (.int u2), (.int u3), (.int u4), (.int u5)] below meth c s₁ [] 0 0 := Stand.of_body Bd
  have e0 : s₁.heap = h0 := by rw [← hh, Bd.state]; rfl
  have N0 := Fr.nil n0
  have pre0 : ∀ t, Steps p.tables e below (s₁.setTop (mkF m 0 #[.val (.int u0), .val (.int u1), .val (.int u2), .val (.int u3), .val (.int u4), .val (.int u5), .unset, .unset, .unset, .unset] [])) t → Steps p.tables e below (s₁.setTop (entryFrame m #[(.int u0), (.int u1), (.int u2), (.int u3), (.int u4), (.int u5)] maxLocals)) t := fun t k => castTop (by first | rfl | simp [entryFrame, mkF, argsToLocals, Value.category, maxLocals]) k
  obtain ⟨T1, h1, X1, e1, E1, A1, D1, -, st1⟩ := newO X0 hx hZ hown (hw _ (List.mem_of_getElem? (i := 0) rfl)) (hw _ (List.mem_of_getElem? (i := 1) rfl)) (hw _ (List.mem_of_getElem? (i := 2) rfl)) e0 (g := (mkF m 0 #[.val (.int u0), .val (.int u1), .val (.int u2), .val (.int u3), .val (.int u4), .val (.int u5), .unset, .unset, .unset, .unset] [])) rfl (hb hby at_0) (by decide) (by decide)
  obtain ⟨b1, g1⟩ : ∃ z, z = h0.size := ⟨_, rfl⟩
  rw [← g1] at A1 D1 st1
  have hG1 : n0 ≤ b1 := Nat.le_trans Z0 (Nat.le_of_eq g1.symm)
  have hKN1 : ∀ i, i < 2 → w i ≠ b1 := fun i hi => by rw [g1]; exact Nat.ne_of_lt (K.lt i hi)
  have K1 := K.ext E1
  have Z1 : n0 ≤ h1.size := Nat.le_trans Z0 E1.1
  have f1_nodes : Fld Z h1 b1 "com/example/tight_tree/tighttree/Block" "nodes" "[I" .null := D1 (Or.inl (hw _ (List.mem_of_getElem? (i := 12) rfl))) (ty := (.array .int)) (by decide)
  have f1_parts : Fld Z h1 b1 "com/example/tight_tree/tighttree/Block" "parts" "[Lcom/example/tight_tree/tighttree/Block;" .null := D1 (Or.inl (hw _ (List.mem_of_getElem? (i := 16) rfl))) (ty := (.array (.object "com/example/tight_tree/tighttree/Block"))) (by decide)
  have f1_placings : Fld Z h1 b1 "com/example/tight_tree/tighttree/Block" "placings" "[I" .null := D1 (Or.inl (hw _ (List.mem_of_getElem? (i := 18) rfl))) (ty := (.array .int)) (by decide)
  have f1_height : Fld Z h1 b1 "com/example/tight_tree/tighttree/Block" "height" "I" (.int (0 : Int32)) := D1 (Or.inl (hw _ (List.mem_of_getElem? (i := 25) rfl))) (ty := .int) (by decide)
  have f1_width : Fld Z h1 b1 "com/example/tight_tree/tighttree/Block" "width" "I" (.int (0 : Int32)) := D1 (Or.inl (hw _ (List.mem_of_getElem? (i := 27) rfl))) (ty := .int) (by decide)
  have f1_nodeCount : Fld Z h1 b1 "com/example/tight_tree/tighttree/Block" "nodeCount" "I" (.int (0 : Int32)) := D1 (Or.inl (hw _ (List.mem_of_getElem? (i := 34) rfl))) (ty := .int) (by decide)
  have f1_runs : Fld Z h1 b1 "com/example/tight_tree/tighttree/Block" "runs" "Lcom/example/tight_tree/tighttree/Block$Run;" .null := D1 (Or.inl (hw _ (List.mem_of_getElem? (i := 64) rfl))) (ty := (.object "com/example/tight_tree/tighttree/Block$Run")) (by decide)
  obtain ⟨_, _, ⟨T2, L2, kk2, n2⟩, -, X2, ⟨Lc2, hQ2, l2, y2, z2⟩, st2⟩ := Jvm.Stand.specialBack X1 hx (y := (⟨"com/example/tight_tree/tighttree/Block", "<init>", "()V"⟩ : MethodName)) rfl hown (mvT hZ (hw _ (List.mem_of_getElem? (i := 3) rfl))) (mvT hZ (hw _ (List.mem_of_getElem? (i := 4) rfl))) (mvT hZ (hw _ (List.mem_of_getElem? (i := 5) rfl))) (by decide) (backOf (W := 1) (rm__init__1 l Z a0 hw w κ h1 n0 Z1 K1 u0 u1 u2 u3 u4 u5 b1 A1 f1_nodes f1_parts f1_placings f1_height f1_width f1_nodeCount f1_runs hG1 hKN1) hZ (hw _ (List.mem_of_getElem? (i := 5) rfl)) (hw _ (List.mem_of_getElem? (i := 2) rfl)) (by decide) (by decide)) (g := (mkF m 4 #[.val (.int u0), .val (.int u1), .val (.int u2), .val (.int u3), .val (.int u4), .val (.int u5), .unset, .unset, .unset, .unset] [(.ref b1), (.ref b1)])) rfl (by rw [hml]; rfl) (Steps.refl _) (a := b1) (argsL := []) (rest := [(.ref b1)]) (lenOf pd_2829V rfl) rfl (by show 2 * 0 + _ ≤ _; exact Nat.le_of_eq rfl) (hb hby at_4) (fun _ _ => ⟨rfl, e1, (by decide : 1 + 0 ≤ _), (by decide : 12 + 0 ≤ _)⟩)
  dsimp only [Pt.U, Pt.locs, Pt.cells, Pt.slots] at X2 l2 y2 z2 st2 hQ2
  subst l2 y2 z2
  obtain ⟨rfl, N2q, Z2, K2, f2_0, f2_1, f2_2, f2_3, f2_4, f2_5, f2_6, f2_7⟩ := hQ2
  have N2 := Fr.app N0 N2q
  obtain ⟨cq3, kq3, qa3, qb3, qc3⟩ := isOf hZ rfl f2_0
  obtain ⟨_, _, ⟨T3, L3, kk3, n3⟩, -, X3, ⟨Lc3, hQ3, l3, y3, z3⟩, st3⟩ := X2.virtualBack hx (y := (⟨"com/example/tight_tree/tighttree/Block", "height", "(Z)I"⟩ : MethodName)) (z := (⟨"com/example/tight_tree/tighttree/Block", "height", "(Z)I"⟩ : MethodName)) hown (mvT hZ (hw _ (List.mem_of_getElem? (i := 19) rfl))) (mvT hZ (hw _ (List.mem_of_getElem? (i := 20) rfl))) (notFace_of_selects (args := #[]) (mvT hZ (hw _ (List.mem_of_getElem? (i := 22) rfl)))) (mvT hZ (hw _ (List.mem_of_getElem? (i := 22) rfl))) (mvT hZ (hw _ (List.mem_of_getElem? (i := 21) rfl))) (by decide) (backOf (W := 0) (rm_height_2 l Z a0 hw w κ T2.heap n0 Z2 K2 u0 u1 u2 u3 u4 u5 b1 f2_4) hZ (hw _ (List.mem_of_getElem? (i := 23) rfl)) (hw _ (List.mem_of_getElem? (i := 2) rfl)) (by decide) (by decide)) qa3 qc3 (g := (mkF m 12 #[.val (.int u0), .val (.int u1), .val (.int u2), .val (.int u3), .val (.int u4), .val (.int u5), .val (.ref b1), .unset, .unset, .unset] [(.int (0 : Int32)), (.ref b1)])) rfl (by rw [hml]; rfl) (Steps.refl _) (argsL := [(.int (0 : Int32))]) (rest := []) (lenOf pd_28Z29I rfl) rfl (by show 2 * 0 + _ ≤ _; exact Nat.le_of_eq rfl) (hb hby at_12) (fun _ _ => ⟨rfl, rfl, (by decide : 1 + 0 ≤ _), (by decide : 12 + 0 ≤ _)⟩)
  dsimp only [Pt.U, Pt.locs, Pt.cells, Pt.slots] at X3 l3 y3 z3 st3 hQ3
  subst l3 y3 z3
  obtain ⟨rfl, N3q, e3⟩ := hQ3
  have N3 := Fr.app N2 N3q
  obtain ⟨cq4, kq4, qa4, qb4, qc4⟩ := isOf hZ e3 f2_0
  obtain ⟨_, _, ⟨T4, L4, kk4, n4⟩, -, X4, ⟨Lc4, hQ4, l4, y4, z4⟩, st4⟩ := X3.virtualBack hx (y := (⟨"com/example/tight_tree/tighttree/Block", "height", "(Z)I"⟩ : MethodName)) (z := (⟨"com/example/tight_tree/tighttree/Block", "height", "(Z)I"⟩ : MethodName)) hown (mvT hZ (hw _ (List.mem_of_getElem? (i := 19) rfl))) (mvT hZ (hw _ (List.mem_of_getElem? (i := 20) rfl))) (notFace_of_selects (args := #[]) (mvT hZ (hw _ (List.mem_of_getElem? (i := 22) rfl)))) (mvT hZ (hw _ (List.mem_of_getElem? (i := 22) rfl))) (mvT hZ (hw _ (List.mem_of_getElem? (i := 21) rfl))) (by decide) (backOf (W := 0) (rm_height_3 l Z a0 hw w κ T2.heap n0 Z2 K2 u0 u1 u2 u3 u4 u5 b1 f2_5) hZ (hw _ (List.mem_of_getElem? (i := 23) rfl)) (hw _ (List.mem_of_getElem? (i := 2) rfl)) (by decide) (by decide)) qa4 qc4 (g := (mkF m 21 #[.val (.int u0), .val (.int u1), .val (.int u2), .val (.int u3), .val (.int u4), .val (.int u5), .val (.ref b1), .unset, .unset, .unset] [(.int (1 : Int32)), (.ref b1)])) rfl (by rw [hml]; rfl) (Steps.refl _) (argsL := [(.int (1 : Int32))]) (rest := []) (lenOf pd_28Z29I rfl) rfl (by show 2 * 0 + _ ≤ _; exact Nat.le_of_eq rfl) (hb hby at_21) (fun _ _ => ⟨rfl, e3, (by decide : 1 + 0 ≤ _), (by decide : 12 + 0 ≤ _)⟩)
  dsimp only [Pt.U, Pt.locs, Pt.cells, Pt.slots] at X4 l4 y4 z4 st4 hQ4
  subst l4 y4 z4
  obtain ⟨rfl, N4q, e4⟩ := hQ4
  have N4 := Fr.app N3 N4q
  obtain ⟨cq5, kq5, qa5, qb5, qc5⟩ := isOf hZ e4 f2_0
  obtain ⟨_, _, ⟨T5, L5, kk5, n5⟩, -, X5, ⟨Lc5, hQ5, l5, y5, z5⟩, st5⟩ := X4.virtualBack hx (y := (⟨"com/example/tight_tree/tighttree/Block", "addNode", "(III)V"⟩ : MethodName)) (z := (⟨"com/example/tight_tree/tighttree/Block", "addNode", "(III)V"⟩ : MethodName)) hown (mvT hZ (hw _ (List.mem_of_getElem? (i := 28) rfl))) (mvT hZ (hw _ (List.mem_of_getElem? (i := 29) rfl))) (notFace_of_selects (args := #[]) (mvT hZ (hw _ (List.mem_of_getElem? (i := 31) rfl)))) (mvT hZ (hw _ (List.mem_of_getElem? (i := 31) rfl))) (mvT hZ (hw _ (List.mem_of_getElem? (i := 30) rfl))) (by decide) (backOf (W := 0) (rm_addNode_8 l Z a0 hw w κ T2.heap n0 Z2 K2 u0 u1 u2 u3 u4 u5 b1 f2_0 f2_1 f2_2 f2_3 f2_4 f2_5 f2_6 f2_7 hG1 hKN1) hZ (hw _ (List.mem_of_getElem? (i := 32) rfl)) (hw _ (List.mem_of_getElem? (i := 2) rfl)) (by decide) (by decide)) qa5 qc5 (g := (mkF m 39 #[.val (.int u0), .val (.int u1), .val (.int u2), .val (.int u3), .val (.int u4), .val (.int u5), .val (.ref b1), .val (.int (1 : Int32)), .unset, .unset] [(.int u1), (.int u0), (.int (0 : Int32)), (.ref b1)])) rfl (by rw [hml]; rfl) (Steps.refl _) (argsL := [(.int (0 : Int32)), (.int u0), (.int u1)]) (rest := []) (lenOf pd_28III29V rfl) rfl (by show 2 * 0 + _ ≤ _; exact Nat.le_of_eq rfl) (hb hby at_39) (fun _ _ => ⟨rfl, e4, (by decide : 1 + 1 ≤ _), (by decide : 12 + 3 ≤ _)⟩)
  dsimp only [Pt.U, Pt.locs, Pt.cells, Pt.slots] at X5 l5 y5 z5 st5 hQ5
  subst l5 y5 z5
  obtain ⟨b2, k1, rfl, N5q, Z5, K5, f5_0, f5_1, f5_2, f5_3, f5_4, f5_5, f5_6, f5_7, f5_8, hi5_0, hi5_1, hi5_2⟩ := hQ5
  have N5 := Fr.app N4 N5q
  obtain ⟨T6, h6, k2, X6, e6, E6, A6, st6⟩ := newP X5 hx hZ (hw _ (List.mem_of_getElem? (i := 43) rfl)) rfl (g := (mkF m 45 #[.val (.int u0), .val (.int u1), .val (.int u2), .val (.int u3), .val (.int u4), .val (.int u5), .val (.ref b1), .val (.int (1 : Int32)), .unset, .unset] [(.int (0 : Int32)), (.ref b1)])) rfl (hb hby at_45) rfl (by decide) (cap := 0) (by decide) (by decide) (by decide) (by decide)
  obtain ⟨b3, g6⟩ : ∃ z, z = T5.heap.size := ⟨_, rfl⟩
  rw [← g6] at A6 st6
  have hG6 : n0 ≤ b3 := Nat.le_trans Z5 (Nat.le_of_eq g6.symm)
  have hN6_0 : b1 ≠ b3 := by rw [g6]; exact Nat.ne_of_lt f5_0.lt
  have hN6_1 : b2 ≠ b3 := by rw [g6]; exact Nat.ne_of_lt f5_8.lt
  have hKN6 : ∀ i, i < 2 → w i ≠ b3 := fun i hi => by rw [g6]; exact Nat.ne_of_lt (K5.lt i hi)
  have f6_fE_b1 := f5_0.ext E6
  have f6_fF_b1_com_example_tight_tree_tighttree_Block_nodes := f5_1.ext E6
  have f6_fF_b1_com_example_tight_tree_tighttree_Block_parts := f5_2.ext E6
  have f6_fF_b1_com_example_tight_tree_tighttree_Block_placings := f5_3.ext E6
  have f6_fF_b1_com_example_tight_tree_tighttree_Block_height := f5_4.ext E6
  have f6_fF_b1_com_example_tight_tree_tighttree_Block_width := f5_5.ext E6
  have f6_fF_b1_com_example_tight_tree_tighttree_Block_nodeCount := f5_6.ext E6
  have f6_fF_b1_com_example_tight_tree_tighttree_Block_runs := f5_7.ext E6
  have f6_fA_b2 := f5_8.ext E6
  have K6 := K5.ext E6
  have Z6 : n0 ≤ h6.size := Nat.le_trans Z5 E6.1
  have V6 : Arv Z h6 b3 k2 .int (0 : Int32) [] (.int (0 : Int32)) := (Arv.new A6 (by decide))
  obtain ⟨T7, h7, k3, X7, e7, E7, A7, st7⟩ := newP X6 hx hZ (hw _ (List.mem_of_getElem? (i := 43) rfl)) e6 (g := (mkF m 49 #[.val (.int u0), .val (.int u1), .val (.int u2), .val (.int u3), .val (.int u4), .val (.int u5), .val (.ref b1), .val (.int (1 : Int32)), .unset, .unset] [(.int (0 : Int32)), (.int (0 : Int32)), (.ref b3), (.ref b1)])) rfl (hb hby at_49) rfl (by decide) (cap := 0) (by decide) (by decide) (by decide) (by decide)
  obtain ⟨b4, g7⟩ : ∃ z, z = h6.size := ⟨_, rfl⟩
  rw [← g7] at A7 st7
  have hG7 : n0 ≤ b4 := Nat.le_trans Z6 (Nat.le_of_eq g7.symm)
  have hN7_0 : b1 ≠ b4 := by rw [g7]; exact Nat.ne_of_lt f6_fE_b1.lt
  have hN7_1 : b2 ≠ b4 := by rw [g7]; exact Nat.ne_of_lt f6_fA_b2.lt
  have hN7_2 : b3 ≠ b4 := by rw [g7]; exact Nat.ne_of_lt V6.lt
  have hKN7 : ∀ i, i < 2 → w i ≠ b4 := fun i hi => by rw [g7]; exact Nat.ne_of_lt (K6.lt i hi)
  have f7_fE_b1 := f6_fE_b1.ext E7
  have f7_fF_b1_com_example_tight_tree_tighttree_Block_nodes := f6_fF_b1_com_example_tight_tree_tighttree_Block_nodes.ext E7
  have f7_fF_b1_com_example_tight_tree_tighttree_Block_parts := f6_fF_b1_com_example_tight_tree_tighttree_Block_parts.ext E7
  have f7_fF_b1_com_example_tight_tree_tighttree_Block_placings := f6_fF_b1_com_example_tight_tree_tighttree_Block_placings.ext E7
  have f7_fF_b1_com_example_tight_tree_tighttree_Block_height := f6_fF_b1_com_example_tight_tree_tighttree_Block_height.ext E7
  have f7_fF_b1_com_example_tight_tree_tighttree_Block_width := f6_fF_b1_com_example_tight_tree_tighttree_Block_width.ext E7
  have f7_fF_b1_com_example_tight_tree_tighttree_Block_nodeCount := f6_fF_b1_com_example_tight_tree_tighttree_Block_nodeCount.ext E7
  have f7_fF_b1_com_example_tight_tree_tighttree_Block_runs := f6_fF_b1_com_example_tight_tree_tighttree_Block_runs.ext E7
  have f7_fA_b2 := f6_fA_b2.ext E7
  have f7_fA_b3 := V6.ext E7
  have K7 := K6.ext E7
  have Z7 : n0 ≤ h7.size := Nat.le_trans Z6 E7.1
  have V7 : Arv Z h7 b4 k3 .int (0 : Int32) [] (.int (0 : Int32)) := (Arv.new A7 (by decide))
  obtain ⟨cq8, kq8, qa8, qb8, qc8⟩ := isOf hZ e7 f7_fE_b1
  obtain ⟨_, _, ⟨T8, L8, kk8, n8⟩, -, X8, ⟨Lc8, hQ8, l8, y8, z8⟩, st8⟩ := X7.virtualBack hx (y := (⟨"com/example/tight_tree/tighttree/Block", "addNodes", "([II[IIIII)V"⟩ : MethodName)) (z := (⟨"com/example/tight_tree/tighttree/Block", "addNodes", "([II[IIIII)V"⟩ : MethodName)) hown (mvT hZ (hw _ (List.mem_of_getElem? (i := 55) rfl))) (mvT hZ (hw _ (List.mem_of_getElem? (i := 56) rfl))) (notFace_of_selects (args := #[]) (mvT hZ (hw _ (List.mem_of_getElem? (i := 58) rfl)))) (mvT hZ (hw _ (List.mem_of_getElem? (i := 58) rfl))) (mvT hZ (hw _ (List.mem_of_getElem? (i := 57) rfl))) (by decide) (backOf (W := 0) (rm_addNodes_12 l Z a0 hw w κ h7 n0 Z7 K7 u0 u1 u2 u3 u4 u5 b1 b2 b3 b4 k1 k2 k3 f7_fE_b1 f7_fF_b1_com_example_tight_tree_tighttree_Block_nodes f7_fF_b1_com_example_tight_tree_tighttree_Block_parts f7_fF_b1_com_example_tight_tree_tighttree_Block_placings f7_fF_b1_com_example_tight_tree_tighttree_Block_height f7_fF_b1_com_example_tight_tree_tighttree_Block_width f7_fF_b1_com_example_tight_tree_tighttree_Block_nodeCount f7_fF_b1_com_example_tight_tree_tighttree_Block_runs f7_fA_b2 f7_fA_b3 V7 hG1 hKN1 hi5_0 hi5_1 hi5_2 hG6 hN6_0 hN6_1 hKN6 hG7 hN7_0 hN7_1 hN7_2 hKN7) hZ (hw _ (List.mem_of_getElem? (i := 59) rfl)) (hw _ (List.mem_of_getElem? (i := 2) rfl)) (by decide) (by decide)) qa8 qc8 (g := (mkF m 57 #[.val (.int u0), .val (.int u1), .val (.int u2), .val (.int u3), .val (.int u4), .val (.int u5), .val (.ref b1), .val (.int (1 : Int32)), .unset, .unset] [(.int u5), (.int u4), (.int u3), (.int u2), (.ref b4), (.int (0 : Int32)), (.ref b3), (.ref b1)])) rfl (by rw [hml]; rfl) (Steps.refl _) (argsL := [(.ref b3), (.int (0 : Int32)), (.ref b4), (.int u2), (.int u3), (.int u4), (.int u5)]) (rest := []) (lenOf pd_285bII5bIIIII29V rfl) rfl (by show 2 * 0 + _ ≤ _; exact Nat.le_of_eq rfl) (hb hby at_57) (fun _ _ => ⟨rfl, e7, (by decide : 4 + 1 ≤ _), (by decide : 15 + 6 ≤ _)⟩)
  dsimp only [Pt.U, Pt.locs, Pt.cells, Pt.slots] at X8 l8 y8 z8 st8 hQ8
  subst l8 y8 z8
  obtain ⟨b5, rfl, N8q, Z8, K8, f8_0, f8_1, f8_2, f8_3, f8_4, f8_5, f8_6, f8_7, f8_8, f8_9, f8_10, f8_11, f8_12, f8_13, f8_14, f8_15, f8_16, f8_17, hi8_0, hi8_1, hi8_2, hi8_3, hi8_4, hi8_5⟩ := hQ8
  have N8 := Fr.app N5 N8q
  obtain ⟨_, _, ⟨T9, L9, kk9, n9⟩, -, X9, ⟨Lc9, hQ9, l9, y9, z9⟩, st9⟩ := Jvm.LawKit.callS X8 hx (y := (⟨"java/lang/Math", "max", "(II)I"⟩ : MethodName)) hown (mvT hZ (hw _ (List.mem_of_getElem? (i := 86) rfl))) (mvT hZ (hw _ (List.mem_of_getElem? (i := 36) rfl))) (mvT hZ (hw _ (List.mem_of_getElem? (i := 37) rfl))) (mvT hZ (hw _ (List.mem_of_getElem? (i := 38) rfl))) (by decide) (backOf (W := 1) (rm_max l Z a0 hw w κ T8.heap n0 Z8 K8 (u1 + (1 : Int32)) (u3 + u5)) hZ (hw _ (List.mem_of_getElem? (i := 38) rfl)) (hw _ (List.mem_of_getElem? (i := 37) rfl)) (by decide) (by decide)) (g := (mkF m 68 #[.val (.int u0), .val (.int u1), .val (.int u2), .val (.int u3), .val (.int u4), .val (.int u5), .val (.ref b1), .val (.int (1 : Int32)), .unset, .unset] [(.int (u3 + u5)), (.int (u1 + (1 : Int32))), (.int (0 : Int32))])) rfl (by rw [hml]; rfl) (argsL := [(.int (u1 + (1 : Int32))), (.int (u3 + u5))]) (rest := [(.int (0 : Int32))]) (lenOf pd_28II29I rfl) rfl (by show 2 * 0 + _ ≤ _; exact Nat.le_of_eq rfl) (hb hby at_68) (fun _ _ => ⟨rfl, rfl, (by decide : 5 + 0 ≤ _), (by decide : 21 + 0 ≤ _)⟩)
  dsimp only [Pt.U, Pt.locs, Pt.cells, Pt.slots] at X9 l9 y9 z9 st9 hQ9
  subst l9 y9 z9
  obtain ⟨rfl, N9q, e9⟩ := hQ9
  have N9 := Fr.app N8 N9q
  obtain ⟨_, _, ⟨T10, L10, kk10, n10⟩, -, X10, ⟨Lc10, hQ10, l10, y10, z10⟩, st10⟩ := Jvm.LawKit.callS X9 hx (y := (⟨"java/lang/Math", "max", "(II)I"⟩ : MethodName)) hown (mvT hZ (hw _ (List.mem_of_getElem? (i := 86) rfl))) (mvT hZ (hw _ (List.mem_of_getElem? (i := 36) rfl))) (mvT hZ (hw _ (List.mem_of_getElem? (i := 37) rfl))) (mvT hZ (hw _ (List.mem_of_getElem? (i := 38) rfl))) (by decide) (backOf (W := 0) (rm_max l Z a0 hw w κ T8.heap n0 Z8 K8 (0 : Int32) (imax (u1 + (1 : Int32)) (u3 + u5))) hZ (hw _ (List.mem_of_getElem? (i := 38) rfl)) (hw _ (List.mem_of_getElem? (i := 37) rfl)) (by decide) (by decide)) (g := (mkF m 71 #[.val (.int u0), .val (.int u1), .val (.int u2), .val (.int u3), .val (.int u4), .val (.int u5), .val (.ref b1), .val (.int (1 : Int32)), .unset, .unset] [(.int (imax (u1 + (1 : Int32)) (u3 + u5))), (.int (0 : Int32))])) rfl (by rw [hml]; rfl) (argsL := [(.int (0 : Int32)), (.int (imax (u1 + (1 : Int32)) (u3 + u5)))]) (rest := []) (lenOf pd_28II29I rfl) rfl (by show 2 * 0 + _ ≤ _; exact Nat.le_of_eq rfl) (hb hby at_71) (fun _ _ => ⟨rfl, e9, (by decide : 5 + 0 ≤ _), (by decide : 21 + 0 ≤ _)⟩)
  dsimp only [Pt.U, Pt.locs, Pt.cells, Pt.slots] at X10 l10 y10 z10 st10 hQ10
  subst l10 y10 z10
  obtain ⟨rfl, N10q, e10⟩ := hQ10
  have N10 := Fr.app N9 N10q
  obtain ⟨_, _, ⟨T11, L11, kk11, n11⟩, -, X11, ⟨Lc11, hQ11, l11, y11, z11⟩, st11⟩ := Jvm.LawKit.callS X10 hx (y := (⟨"java/lang/Math", "max", "(II)I"⟩ : MethodName)) hown (mvT hZ (hw _ (List.mem_of_getElem? (i := 86) rfl))) (mvT hZ (hw _ (List.mem_of_getElem? (i := 36) rfl))) (mvT hZ (hw _ (List.mem_of_getElem? (i := 37) rfl))) (mvT hZ (hw _ (List.mem_of_getElem? (i := 38) rfl))) (by decide) (backOf (W := 1) (rm_max l Z a0 hw w κ T8.heap n0 Z8 K8 (u0 + (1 : Int32)) (u2 + u4)) hZ (hw _ (List.mem_of_getElem? (i := 38) rfl)) (hw _ (List.mem_of_getElem? (i := 37) rfl)) (by decide) (by decide)) (g := (mkF m 84 #[.val (.int u0), .val (.int u1), .val (.int u2), .val (.int u3), .val (.int u4), .val (.int u5), .val (.ref b1), .val (.int (1 : Int32)), .val (.int (imax (0 : Int32) (imax (u1 + (1 : Int32)) (u3 + u5)))), .unset] [(.int (u2 + u4)), (.int (u0 + (1 : Int32))), (.int (0 : Int32))])) rfl (by rw [hml]; rfl) (argsL := [(.int (u0 + (1 : Int32))), (.int (u2 + u4))]) (rest := [(.int (0 : Int32))]) (lenOf pd_28II29I rfl) rfl (by show 2 * 0 + _ ≤ _; exact Nat.le_of_eq rfl) (hb hby at_84) (fun _ _ => ⟨rfl, e10, (by decide : 5 + 0 ≤ _), (by decide : 21 + 0 ≤ _)⟩)
  dsimp only [Pt.U, Pt.locs, Pt.cells, Pt.slots] at X11 l11 y11 z11 st11 hQ11
  subst l11 y11 z11
  obtain ⟨rfl, N11q, e11⟩ := hQ11
  have N11 := Fr.app N10 N11q
  obtain ⟨_, _, ⟨T12, L12, kk12, n12⟩, -, X12, ⟨Lc12, hQ12, l12, y12, z12⟩, st12⟩ := Jvm.LawKit.callS X11 hx (y := (⟨"java/lang/Math", "max", "(II)I"⟩ : MethodName)) hown (mvT hZ (hw _ (List.mem_of_getElem? (i := 86) rfl))) (mvT hZ (hw _ (List.mem_of_getElem? (i := 36) rfl))) (mvT hZ (hw _ (List.mem_of_getElem? (i := 37) rfl))) (mvT hZ (hw _ (List.mem_of_getElem? (i := 38) rfl))) (by decide) (backOf (W := 0) (rm_max l Z a0 hw w κ T8.heap n0 Z8 K8 (0 : Int32) (imax (u0 + (1 : Int32)) (u2 + u4))) hZ (hw _ (List.mem_of_getElem? (i := 38) rfl)) (hw _ (List.mem_of_getElem? (i := 37) rfl)) (by decide) (by decide)) (g := (mkF m 87 #[.val (.int u0), .val (.int u1), .val (.int u2), .val (.int u3), .val (.int u4), .val (.int u5), .val (.ref b1), .val (.int (1 : Int32)), .val (.int (imax (0 : Int32) (imax (u1 + (1 : Int32)) (u3 + u5)))), .unset] [(.int (imax (u0 + (1 : Int32)) (u2 + u4))), (.int (0 : Int32))])) rfl (by rw [hml]; rfl) (argsL := [(.int (0 : Int32)), (.int (imax (u0 + (1 : Int32)) (u2 + u4)))]) (rest := []) (lenOf pd_28II29I rfl) rfl (by show 2 * 0 + _ ≤ _; exact Nat.le_of_eq rfl) (hb hby at_87) (fun _ _ => ⟨rfl, e11, (by decide : 5 + 0 ≤ _), (by decide : 21 + 0 ≤ _)⟩)
  dsimp only [Pt.U, Pt.locs, Pt.cells, Pt.slots] at X12 l12 y12 z12 st12 hQ12
  subst l12 y12 z12
  obtain ⟨rfl, N12q, e12⟩ := hQ12
  have N12 := Fr.app N11 N12q
  obtain ⟨cq13, kq13, qa13, qb13, qc13⟩ := isOf hZ e12 f8_0
  obtain ⟨_, _, ⟨T13, L13, kk13, n13⟩, -, X13, ⟨Lc13, hQ13, l13, y13, z13⟩, st13⟩ := X12.virtualBack hx (y := (⟨"com/example/tight_tree/tighttree/Block", "height", "(Z)I"⟩ : MethodName)) (z := (⟨"com/example/tight_tree/tighttree/Block", "height", "(Z)I"⟩ : MethodName)) hown (mvT hZ (hw _ (List.mem_of_getElem? (i := 19) rfl))) (mvT hZ (hw _ (List.mem_of_getElem? (i := 20) rfl))) (notFace_of_selects (args := #[]) (mvT hZ (hw _ (List.mem_of_getElem? (i := 22) rfl)))) (mvT hZ (hw _ (List.mem_of_getElem? (i := 22) rfl))) (mvT hZ (hw _ (List.mem_of_getElem? (i := 21) rfl))) (by decide) (backOf (W := 0) (rm_height_13 l Z a0 hw w κ T8.heap n0 Z8 K8 u0 u1 u2 u3 u4 u5 b1 b2 b3 b4 b5 k1 k2 k3 f8_4) hZ (hw _ (List.mem_of_getElem? (i := 23) rfl)) (hw _ (List.mem_of_getElem? (i := 2) rfl)) (by decide) (by decide)) qa13 qc13 (g := (mkF m 100 #[.val (.int u0), .val (.int u1), .val (.int u2), .val (.int u3), .val (.int u4), .val (.int u5), .val (.ref b1), .val (.int (1 : Int32)), .val (.int (imax (0 : Int32) (imax (u1 + (1 : Int32)) (u3 + u5)))), .val (.int (imax (0 : Int32) (imax (u0 + (1 : Int32)) (u2 + u4))))] [(.int (0 : Int32)), (.ref b1)])) rfl (by rw [hml]; rfl) (Steps.refl _) (argsL := [(.int (0 : Int32))]) (rest := []) (lenOf pd_28Z29I rfl) rfl (by show 2 * 0 + _ ≤ _; exact Nat.le_of_eq rfl) (hb hby at_100) (fun _ _ => ⟨rfl, e12, (by decide : 5 + 0 ≤ _), (by decide : 21 + 0 ≤ _)⟩)
  dsimp only [Pt.U, Pt.locs, Pt.cells, Pt.slots] at X13 l13 y13 z13 st13 hQ13
  subst l13 y13 z13
  obtain ⟨rfl, N13q, e13⟩ := hQ13
  have N13 := Fr.app N12 N13q
  obtain ⟨cq14, kq14, qa14, qb14, qc14⟩ := isOf hZ e13 f8_0
  obtain ⟨_, _, ⟨T14, L14, kk14, n14⟩, -, X14, ⟨Lc14, hQ14, l14, y14, z14⟩, st14⟩ := X13.virtualBack hx (y := (⟨"com/example/tight_tree/tighttree/Block", "height", "(Z)I"⟩ : MethodName)) (z := (⟨"com/example/tight_tree/tighttree/Block", "height", "(Z)I"⟩ : MethodName)) hown (mvT hZ (hw _ (List.mem_of_getElem? (i := 19) rfl))) (mvT hZ (hw _ (List.mem_of_getElem? (i := 20) rfl))) (notFace_of_selects (args := #[]) (mvT hZ (hw _ (List.mem_of_getElem? (i := 22) rfl)))) (mvT hZ (hw _ (List.mem_of_getElem? (i := 22) rfl))) (mvT hZ (hw _ (List.mem_of_getElem? (i := 21) rfl))) (by decide) (backOf (W := 0) (rm_height_14 l Z a0 hw w κ T8.heap n0 Z8 K8 u0 u1 u2 u3 u4 u5 b1 b2 b3 b4 b5 k1 k2 k3 f8_5) hZ (hw _ (List.mem_of_getElem? (i := 23) rfl)) (hw _ (List.mem_of_getElem? (i := 2) rfl)) (by decide) (by decide)) qa14 qc14 (g := (mkF m 111 #[.val (.int u0), .val (.int u1), .val (.int u2), .val (.int u3), .val (.int u4), .val (.int u5), .val (.ref b1), .val (.int (1 : Int32)), .val (.int (imax (0 : Int32) (imax (u1 + (1 : Int32)) (u3 + u5)))), .val (.int (imax (0 : Int32) (imax (u0 + (1 : Int32)) (u2 + u4))))] [(.int (1 : Int32)), (.ref b1)])) rfl (by rw [hml]; rfl) (Steps.refl _) (argsL := [(.int (1 : Int32))]) (rest := []) (lenOf pd_28Z29I rfl) rfl (by show 2 * 0 + _ ≤ _; exact Nat.le_of_eq rfl) (hb hby at_111) (fun _ _ => ⟨rfl, e13, (by decide : 5 + 0 ≤ _), (by decide : 21 + 0 ≤ _)⟩)
  dsimp only [Pt.U, Pt.locs, Pt.cells, Pt.slots] at X14 l14 y14 z14 st14 hQ14
  subst l14 y14 z14
  obtain ⟨rfl, N14q, e14⟩ := hQ14
  have N14 := Fr.app N13 N14q
  obtain ⟨fs, hr, hrun, hended, hW, hsame⟩ := X14.leave (v := (some (.int (1 : Int32)))) (fun h => by rw [Bd.returns] at h; cases h)
  refine ⟨_, _, pre0 _ ?_, hrun, hended, _, _, rfl, ?_, ⟨_, rfl⟩, hW, hsame.mono (by decide) (by decide)⟩
  · show Steps p.tables e below (s₁.setTop (mkF m 0 #[.val (.int u0), .val (.int u1), .val (.int u2), .val (.int u3), .val (.int u4), .val (.int u5), .unset, .unset, .unset, .unset] [])) _
    refine st1 _ ?_
    show Steps p.tables e below (T1.setTop (mkF m 3 #[.val (.int u0), .val (.int u1), .val (.int u2), .val (.int u3), .val (.int u4), .val (.int u5), .unset, .unset, .unset, .unset] [(.ref b1)])) _
    refine XS.dup X1.here hx rfl (hb hby at_3) rfl rfl ?_
    show Steps p.tables e below (T1.setTop (mkF m 4 #[.val (.int u0), .val (.int u1), .val (.int u2), .val (.int u3), .val (.int u4), .val (.int u5), .unset, .unset, .unset, .unset] [(.ref b1), (.ref b1)])) _
    refine st2.trans ?_
    show Steps p.tables e below (T2.setTop (mkF m 7 #[.val (.int u0), .val (.int u1), .val (.int u2), .val (.int u3), .val (.int u4), .val (.int u5), .unset, .unset, .unset, .unset] [(.ref b1)])) _
    refine XS.astore X2.here hx rfl (hb hby at_7) rfl rfl (l' := #[.val (.int u0), .val (.int u1), .val (.int u2), .val (.int u3), .val (.int u4), .val (.int u5), .val (.ref b1), .unset, .unset, .unset]) rfl ?_
    show Steps p.tables e below (T2.setTop (mkF m 9 #[.val (.int u0), .val (.int u1), .val (.int u2), .val (.int u3), .val (.int u4), .val (.int u5), .val (.ref b1), .unset, .unset, .unset] [])) _
    refine XS.aload X2.here hx rfl (hb hby at_9) rfl rfl ?_
    show Steps p.tables e below (T2.setTop (mkF m 11 #[.val (.int u0), .val (.int u1), .val (.int u2), .val (.int u3), .val (.int u4), .val (.int u5), .val (.ref b1), .unset, .unset, .unset] [(.ref b1)])) _
    refine XS.iconst X2.here hx rfl (hb hby at_11) ?_
    show Steps p.tables e below (T2.setTop (mkF m 12 #[.val (.int u0), .val (.int u1), .val (.int u2), .val (.int u3), .val (.int u4), .val (.int u5), .val (.ref b1), .unset, .unset, .unset] [(.int (0 : Int32)), (.ref b1)])) _
    refine st3.trans ?_
    show Steps p.tables e below (T3.setTop (mkF m 15 #[.val (.int u0), .val (.int u1), .val (.int u2), .val (.int u3), .val (.int u4), .val (.int u5), .val (.ref b1), .unset, .unset, .unset] [(.int (0 : Int32))])) _
    refine XS.ifNo X3.here hx rfl (hb hby at_15) rfl ((if0 _ _).trans (teq (by decide : (0 : Int32) = (0 : Int32))).2) ?_
    show Steps p.tables e below (T3.setTop (mkF m 18 #[.val (.int u0), .val (.int u1), .val (.int u2), .val (.int u3), .val (.int u4), .val (.int u5), .val (.ref b1), .unset, .unset, .unset] [])) _
    refine XS.aload X3.here hx rfl (hb hby at_18) rfl rfl ?_
    show Steps p.tables e below (T3.setTop (mkF m 20 #[.val (.int u0), .val (.int u1), .val (.int u2), .val (.int u3), .val (.int u4), .val (.int u5), .val (.ref b1), .unset, .unset, .unset] [(.ref b1)])) _
    refine XS.iconst X3.here hx rfl (hb hby at_20) ?_
    show Steps p.tables e below (T3.setTop (mkF m 21 #[.val (.int u0), .val (.int u1), .val (.int u2), .val (.int u3), .val (.int u4), .val (.int u5), .val (.ref b1), .unset, .unset, .unset] [(.int (1 : Int32)), (.ref b1)])) _
    refine st4.trans ?_
    show Steps p.tables e below (T4.setTop (mkF m 24 #[.val (.int u0), .val (.int u1), .val (.int u2), .val (.int u3), .val (.int u4), .val (.int u5), .val (.ref b1), .unset, .unset, .unset] [(.int (0 : Int32))])) _
    refine XS.ifNo X4.here hx rfl (hb hby at_24) rfl ((if0 _ _).trans (teq (by decide : (0 : Int32) = (0 : Int32))).2) ?_
    show Steps p.tables e below (T4.setTop (mkF m 27 #[.val (.int u0), .val (.int u1), .val (.int u2), .val (.int u3), .val (.int u4), .val (.int u5), .val (.ref b1), .unset, .unset, .unset] [])) _
    refine XS.iconst X4.here hx rfl (hb hby at_27) ?_
    show Steps p.tables e below (T4.setTop (mkF m 28 #[.val (.int u0), .val (.int u1), .val (.int u2), .val (.int u3), .val (.int u4), .val (.int u5), .val (.ref b1), .unset, .unset, .unset] [(.int (1 : Int32))])) _
    refine XS.goto X4.here hx rfl (pc0 := 28) (pc' := 32) rfl (hb hby at_28) (by decide) (by decide) ?_
    show Steps p.tables e below (T4.setTop (mkF m 32 #[.val (.int u0), .val (.int u1), .val (.int u2), .val (.int u3), .val (.int u4), .val (.int u5), .val (.ref b1), .unset, .unset, .unset] [(.int (1 : Int32))])) _
    refine XS.istore X4.here hx rfl (hb hby at_32) rfl (l' := #[.val (.int u0), .val (.int u1), .val (.int u2), .val (.int u3), .val (.int u4), .val (.int u5), .val (.ref b1), .val (.int (1 : Int32)), .unset, .unset]) rfl ?_
    show Steps p.tables e below (T4.setTop (mkF m 34 #[.val (.int u0), .val (.int u1), .val (.int u2), .val (.int u3), .val (.int u4), .val (.int u5), .val (.ref b1), .val (.int (1 : Int32)), .unset, .unset] [])) _
    refine XS.aload X4.here hx rfl (hb hby at_34) rfl rfl ?_
    show Steps p.tables e below (T4.setTop (mkF m 36 #[.val (.int u0), .val (.int u1), .val (.int u2), .val (.int u3), .val (.int u4), .val (.int u5), .val (.ref b1), .val (.int (1 : Int32)), .unset, .unset] [(.ref b1)])) _
    refine XS.iconst X4.here hx rfl (hb hby at_36) ?_
    show Steps p.tables e below (T4.setTop (mkF m 37 #[.val (.int u0), .val (.int u1), .val (.int u2), .val (.int u3), .val (.int u4), .val (.int u5), .val (.ref b1), .val (.int (1 : Int32)), .unset, .unset] [(.int (0 : Int32)), (.ref b1)])) _
    refine XS.iloadN X4.here hx rfl (hb hby at_37) rfl ?_
    show Steps p.tables e below (T4.setTop (mkF m 38 #[.val (.int u0), .val (.int u1), .val (.int u2), .val (.int u3), .val (.int u4), .val (.int u5), .val (.ref b1), .val (.int (1 : Int32)), .unset, .unset] [(.int u0), (.int (0 : Int32)), (.ref b1)])) _
    refine XS.iloadN X4.here hx rfl (hb hby at_38) rfl ?_
    show Steps p.tables e below (T4.setTop (mkF m 39 #[.val (.int u0), .val (.int u1), .val (.int u2), .val (.int u3), .val (.int u4), .val (.int u5), .val (.ref b1), .val (.int (1 : Int32)), .unset, .unset] [(.int u1), (.int u0), (.int (0 : Int32)), (.ref b1)])) _
    refine st5.trans ?_
    show Steps p.tables e below (T5.setTop (mkF m 42 #[.val (.int u0), .val (.int u1), .val (.int u2), .val (.int u3), .val (.int u4), .val (.int u5), .val (.ref b1), .val (.int (1 : Int32)), .unset, .unset] [])) _
    refine XS.aload X5.here hx rfl (hb hby at_42) rfl rfl ?_
    show Steps p.tables e below (T5.setTop (mkF m 44 #[.val (.int u0), .val (.int u1), .val (.int u2), .val (.int u3), .val (.int u4), .val (.int u5), .val (.ref b1), .val (.int (1 : Int32)), .unset, .unset] [(.ref b1)])) _
    refine XS.iconst X5.here hx rfl (hb hby at_44) ?_
    show Steps p.tables e below (T5.setTop (mkF m 45 #[.val (.int u0), .val (.int u1), .val (.int u2), .val (.int u3), .val (.int u4), .val (.int u5), .val (.ref b1), .val (.int (1 : Int32)), .unset, .unset] [(.int (0 : Int32)), (.ref b1)])) _
    refine st6 _ ?_
    show Steps p.tables e below (T6.setTop (mkF m 47 #[.val (.int u0), .val (.int u1), .val (.int u2), .val (.int u3), .val (.int u4), .val (.int u5), .val (.ref b1), .val (.int (1 : Int32)), .unset, .unset] [(.ref b3), (.ref b1)])) _
    refine XS.iconst X6.here hx rfl (hb hby at_47) ?_
    show Steps p.tables e below (T6.setTop (mkF m 48 #[.val (.int u0), .val (.int u1), .val (.int u2), .val (.int u3), .val (.int u4), .val (.int u5), .val (.ref b1), .val (.int (1 : Int32)), .unset, .unset] [(.int (0 : Int32)), (.ref b3), (.ref b1)])) _
    refine XS.iconst X6.here hx rfl (hb hby at_48) ?_
    show Steps p.tables e below (T6.setTop (mkF m 49 #[.val (.int u0), .val (.int u1), .val (.int u2), .val (.int u3), .val (.int u4), .val (.int u5), .val (.ref b1), .val (.int (1 : Int32)), .unset, .unset] [(.int (0 : Int32)), (.int (0 : Int32)), (.ref b3), (.ref b1)])) _
    refine st7 _ ?_
    show Steps p.tables e below (T7.setTop (mkF m 51 #[.val (.int u0), .val (.int u1), .val (.int u2), .val (.int u3), .val (.int u4), .val (.int u5), .val (.ref b1), .val (.int (1 : Int32)), .unset, .unset] [(.ref b4), (.int (0 : Int32)), (.ref b3), (.ref b1)])) _
    refine XS.iloadN X7.here hx rfl (hb hby at_51) rfl ?_
    show Steps p.tables e below (T7.setTop (mkF m 52 #[.val (.int u0), .val (.int u1), .val (.int u2), .val (.int u3), .val (.int u4), .val (.int u5), .val (.ref b1), .val (.int (1 : Int32)), .unset, .unset] [(.int u2), (.ref b4), (.int (0 : Int32)), (.ref b3), (.ref b1)])) _
    refine XS.iloadN X7.here hx rfl (hb hby at_52) rfl ?_
    show Steps p.tables e below (T7.setTop (mkF m 53 #[.val (.int u0), .val (.int u1), .val (.int u2), .val (.int u3), .val (.int u4), .val (.int u5), .val (.ref b1), .val (.int (1 : Int32)), .unset, .unset] [(.int u3), (.int u2), (.ref b4), (.int (0 : Int32)), (.ref b3), (.ref b1)])) _
    refine XS.iload X7.here hx rfl (hb hby at_53) rfl ?_
    show Steps p.tables e below (T7.setTop (mkF m 55 #[.val (.int u0), .val (.int u1), .val (.int u2), .val (.int u3), .val (.int u4), .val (.int u5), .val (.ref b1), .val (.int (1 : Int32)), .unset, .unset] [(.int u4), (.int u3), (.int u2), (.ref b4), (.int (0 : Int32)), (.ref b3), (.ref b1)])) _
    refine XS.iload X7.here hx rfl (hb hby at_55) rfl ?_
    show Steps p.tables e below (T7.setTop (mkF m 57 #[.val (.int u0), .val (.int u1), .val (.int u2), .val (.int u3), .val (.int u4), .val (.int u5), .val (.ref b1), .val (.int (1 : Int32)), .unset, .unset] [(.int u5), (.int u4), (.int u3), (.int u2), (.ref b4), (.int (0 : Int32)), (.ref b3), (.ref b1)])) _
    refine st8.trans ?_
    show Steps p.tables e below (T8.setTop (mkF m 60 #[.val (.int u0), .val (.int u1), .val (.int u2), .val (.int u3), .val (.int u4), .val (.int u5), .val (.ref b1), .val (.int (1 : Int32)), .unset, .unset] [])) _
    refine XS.iconst X8.here hx rfl (hb hby at_60) ?_
    show Steps p.tables e below (T8.setTop (mkF m 61 #[.val (.int u0), .val (.int u1), .val (.int u2), .val (.int u3), .val (.int u4), .val (.int u5), .val (.ref b1), .val (.int (1 : Int32)), .unset, .unset] [(.int (0 : Int32))])) _
    refine XS.iloadN X8.here hx rfl (hb hby at_61) rfl ?_
    show Steps p.tables e below (T8.setTop (mkF m 62 #[.val (.int u0), .val (.int u1), .val (.int u2), .val (.int u3), .val (.int u4), .val (.int u5), .val (.ref b1), .val (.int (1 : Int32)), .unset, .unset] [(.int u1), (.int (0 : Int32))])) _
    refine XS.iconst X8.here hx rfl (hb hby at_62) ?_
    show Steps p.tables e below (T8.setTop (mkF m 63 #[.val (.int u0), .val (.int u1), .val (.int u2), .val (.int u3), .val (.int u4), .val (.int u5), .val (.ref b1), .val (.int (1 : Int32)), .unset, .unset] [(.int (1 : Int32)), (.int u1), (.int (0 : Int32))])) _
    refine XS.iadd X8.here hx rfl (hb hby at_63) rfl ?_
    show Steps p.tables e below (T8.setTop (mkF m 64 #[.val (.int u0), .val (.int u1), .val (.int u2), .val (.int u3), .val (.int u4), .val (.int u5), .val (.ref b1), .val (.int (1 : Int32)), .unset, .unset] [(.int (u1 + (1 : Int32))), (.int (0 : Int32))])) _
    refine XS.iloadN X8.here hx rfl (hb hby at_64) rfl ?_
    show Steps p.tables e below (T8.setTop (mkF m 65 #[.val (.int u0), .val (.int u1), .val (.int u2), .val (.int u3), .val (.int u4), .val (.int u5), .val (.ref b1), .val (.int (1 : Int32)), .unset, .unset] [(.int u3), (.int (u1 + (1 : Int32))), (.int (0 : Int32))])) _
    refine XS.iload X8.here hx rfl (hb hby at_65) rfl ?_
    show Steps p.tables e below (T8.setTop (mkF m 67 #[.val (.int u0), .val (.int u1), .val (.int u2), .val (.int u3), .val (.int u4), .val (.int u5), .val (.ref b1), .val (.int (1 : Int32)), .unset, .unset] [(.int u5), (.int u3), (.int (u1 + (1 : Int32))), (.int (0 : Int32))])) _
    refine XS.iadd X8.here hx rfl (hb hby at_67) rfl ?_
    show Steps p.tables e below (T8.setTop (mkF m 68 #[.val (.int u0), .val (.int u1), .val (.int u2), .val (.int u3), .val (.int u4), .val (.int u5), .val (.ref b1), .val (.int (1 : Int32)), .unset, .unset] [(.int (u3 + u5)), (.int (u1 + (1 : Int32))), (.int (0 : Int32))])) _
    refine st9 _ ?_
    show Steps p.tables e below (T9.setTop (mkF m 71 #[.val (.int u0), .val (.int u1), .val (.int u2), .val (.int u3), .val (.int u4), .val (.int u5), .val (.ref b1), .val (.int (1 : Int32)), .unset, .unset] [(.int (imax (u1 + (1 : Int32)) (u3 + u5))), (.int (0 : Int32))])) _
    refine st10 _ ?_
    show Steps p.tables e below (T10.setTop (mkF m 74 #[.val (.int u0), .val (.int u1), .val (.int u2), .val (.int u3), .val (.int u4), .val (.int u5), .val (.ref b1), .val (.int (1 : Int32)), .unset, .unset] [(.int (imax (0 : Int32) (imax (u1 + (1 : Int32)) (u3 + u5))))])) _
    refine XS.istore X10.here hx rfl (hb hby at_74) rfl (l' := #[.val (.int u0), .val (.int u1), .val (.int u2), .val (.int u3), .val (.int u4), .val (.int u5), .val (.ref b1), .val (.int (1 : Int32)), .val (.int (imax (0 : Int32) (imax (u1 + (1 : Int32)) (u3 + u5)))), .unset]) rfl ?_
    show Steps p.tables e below (T10.setTop (mkF m 76 #[.val (.int u0), .val (.int u1), .val (.int u2), .val (.int u3), .val (.int u4), .val (.int u5), .val (.ref b1), .val (.int (1 : Int32)), .val (.int (imax (0 : Int32) (imax (u1 + (1 : Int32)) (u3 + u5)))), .unset] [])) _
    refine XS.iconst X10.here hx rfl (hb hby at_76) ?_
    show Steps p.tables e below (T10.setTop (mkF m 77 #[.val (.int u0), .val (.int u1), .val (.int u2), .val (.int u3), .val (.int u4), .val (.int u5), .val (.ref b1), .val (.int (1 : Int32)), .val (.int (imax (0 : Int32) (imax (u1 + (1 : Int32)) (u3 + u5)))), .unset] [(.int (0 : Int32))])) _
    refine XS.iloadN X10.here hx rfl (hb hby at_77) rfl ?_
    show Steps p.tables e below (T10.setTop (mkF m 78 #[.val (.int u0), .val (.int u1), .val (.int u2), .val (.int u3), .val (.int u4), .val (.int u5), .val (.ref b1), .val (.int (1 : Int32)), .val (.int (imax (0 : Int32) (imax (u1 + (1 : Int32)) (u3 + u5)))), .unset] [(.int u0), (.int (0 : Int32))])) _
    refine XS.iconst X10.here hx rfl (hb hby at_78) ?_
    show Steps p.tables e below (T10.setTop (mkF m 79 #[.val (.int u0), .val (.int u1), .val (.int u2), .val (.int u3), .val (.int u4), .val (.int u5), .val (.ref b1), .val (.int (1 : Int32)), .val (.int (imax (0 : Int32) (imax (u1 + (1 : Int32)) (u3 + u5)))), .unset] [(.int (1 : Int32)), (.int u0), (.int (0 : Int32))])) _
    refine XS.iadd X10.here hx rfl (hb hby at_79) rfl ?_
    show Steps p.tables e below (T10.setTop (mkF m 80 #[.val (.int u0), .val (.int u1), .val (.int u2), .val (.int u3), .val (.int u4), .val (.int u5), .val (.ref b1), .val (.int (1 : Int32)), .val (.int (imax (0 : Int32) (imax (u1 + (1 : Int32)) (u3 + u5)))), .unset] [(.int (u0 + (1 : Int32))), (.int (0 : Int32))])) _
    refine XS.iloadN X10.here hx rfl (hb hby at_80) rfl ?_
    show Steps p.tables e below (T10.setTop (mkF m 81 #[.val (.int u0), .val (.int u1), .val (.int u2), .val (.int u3), .val (.int u4), .val (.int u5), .val (.ref b1), .val (.int (1 : Int32)), .val (.int (imax (0 : Int32) (imax (u1 + (1 : Int32)) (u3 + u5)))), .unset] [(.int u2), (.int (u0 + (1 : Int32))), (.int (0 : Int32))])) _
    refine XS.iload X10.here hx rfl (hb hby at_81) rfl ?_
    show Steps p.tables e below (T10.setTop (mkF m 83 #[.val (.int u0), .val (.int u1), .val (.int u2), .val (.int u3), .val (.int u4), .val (.int u5), .val (.ref b1), .val (.int (1 : Int32)), .val (.int (imax (0 : Int32) (imax (u1 + (1 : Int32)) (u3 + u5)))), .unset] [(.int u4), (.int u2), (.int (u0 + (1 : Int32))), (.int (0 : Int32))])) _
    refine XS.iadd X10.here hx rfl (hb hby at_83) rfl ?_
    show Steps p.tables e below (T10.setTop (mkF m 84 #[.val (.int u0), .val (.int u1), .val (.int u2), .val (.int u3), .val (.int u4), .val (.int u5), .val (.ref b1), .val (.int (1 : Int32)), .val (.int (imax (0 : Int32) (imax (u1 + (1 : Int32)) (u3 + u5)))), .unset] [(.int (u2 + u4)), (.int (u0 + (1 : Int32))), (.int (0 : Int32))])) _
    refine st11 _ ?_
    show Steps p.tables e below (T11.setTop (mkF m 87 #[.val (.int u0), .val (.int u1), .val (.int u2), .val (.int u3), .val (.int u4), .val (.int u5), .val (.ref b1), .val (.int (1 : Int32)), .val (.int (imax (0 : Int32) (imax (u1 + (1 : Int32)) (u3 + u5)))), .unset] [(.int (imax (u0 + (1 : Int32)) (u2 + u4))), (.int (0 : Int32))])) _
    refine st12 _ ?_
    show Steps p.tables e below (T12.setTop (mkF m 90 #[.val (.int u0), .val (.int u1), .val (.int u2), .val (.int u3), .val (.int u4), .val (.int u5), .val (.ref b1), .val (.int (1 : Int32)), .val (.int (imax (0 : Int32) (imax (u1 + (1 : Int32)) (u3 + u5)))), .unset] [(.int (imax (0 : Int32) (imax (u0 + (1 : Int32)) (u2 + u4))))])) _
    refine XS.istore X12.here hx rfl (hb hby at_90) rfl (l' := #[.val (.int u0), .val (.int u1), .val (.int u2), .val (.int u3), .val (.int u4), .val (.int u5), .val (.ref b1), .val (.int (1 : Int32)), .val (.int (imax (0 : Int32) (imax (u1 + (1 : Int32)) (u3 + u5)))), .val (.int (imax (0 : Int32) (imax (u0 + (1 : Int32)) (u2 + u4))))]) rfl ?_
    show Steps p.tables e below (T12.setTop (mkF m 92 #[.val (.int u0), .val (.int u1), .val (.int u2), .val (.int u3), .val (.int u4), .val (.int u5), .val (.ref b1), .val (.int (1 : Int32)), .val (.int (imax (0 : Int32) (imax (u1 + (1 : Int32)) (u3 + u5)))), .val (.int (imax (0 : Int32) (imax (u0 + (1 : Int32)) (u2 + u4))))] [])) _
    refine XS.iload X12.here hx rfl (hb hby at_92) rfl ?_
    show Steps p.tables e below (T12.setTop (mkF m 94 #[.val (.int u0), .val (.int u1), .val (.int u2), .val (.int u3), .val (.int u4), .val (.int u5), .val (.ref b1), .val (.int (1 : Int32)), .val (.int (imax (0 : Int32) (imax (u1 + (1 : Int32)) (u3 + u5)))), .val (.int (imax (0 : Int32) (imax (u0 + (1 : Int32)) (u2 + u4))))] [(.int (1 : Int32))])) _
    refine XS.ifNo X12.here hx rfl (hb hby at_94) rfl ((if0 _ _).trans (feq (by decide : ¬ ((1 : Int32) = (0 : Int32)))).1) ?_
    show Steps p.tables e below (T12.setTop (mkF m 97 #[.val (.int u0), .val (.int u1), .val (.int u2), .val (.int u3), .val (.int u4), .val (.int u5), .val (.ref b1), .val (.int (1 : Int32)), .val (.int (imax (0 : Int32) (imax (u1 + (1 : Int32)) (u3 + u5)))), .val (.int (imax (0 : Int32) (imax (u0 + (1 : Int32)) (u2 + u4))))] [])) _
    refine XS.aload X12.here hx rfl (hb hby at_97) rfl rfl ?_
    show Steps p.tables e below (T12.setTop (mkF m 99 #[.val (.int u0), .val (.int u1), .val (.int u2), .val (.int u3), .val (.int u4), .val (.int u5), .val (.ref b1), .val (.int (1 : Int32)), .val (.int (imax (0 : Int32) (imax (u1 + (1 : Int32)) (u3 + u5)))), .val (.int (imax (0 : Int32) (imax (u0 + (1 : Int32)) (u2 + u4))))] [(.ref b1)])) _
    refine XS.iconst X12.here hx rfl (hb hby at_99) ?_
    show Steps p.tables e below (T12.setTop (mkF m 100 #[.val (.int u0), .val (.int u1), .val (.int u2), .val (.int u3), .val (.int u4), .val (.int u5), .val (.ref b1), .val (.int (1 : Int32)), .val (.int (imax (0 : Int32) (imax (u1 + (1 : Int32)) (u3 + u5)))), .val (.int (imax (0 : Int32) (imax (u0 + (1 : Int32)) (u2 + u4))))] [(.int (0 : Int32)), (.ref b1)])) _
    refine st13.trans ?_
    show Steps p.tables e below (T13.setTop (mkF m 103 #[.val (.int u0), .val (.int u1), .val (.int u2), .val (.int u3), .val (.int u4), .val (.int u5), .val (.ref b1), .val (.int (1 : Int32)), .val (.int (imax (0 : Int32) (imax (u1 + (1 : Int32)) (u3 + u5)))), .val (.int (imax (0 : Int32) (imax (u0 + (1 : Int32)) (u2 + u4))))] [(.int (imax (imax (0 : Int32) (u1 + (1 : Int32))) (u3 + u5)))])) _
    refine XS.iload X13.here hx rfl (hb hby at_103) rfl ?_
    show Steps p.tables e below (T13.setTop (mkF m 105 #[.val (.int u0), .val (.int u1), .val (.int u2), .val (.int u3), .val (.int u4), .val (.int u5), .val (.ref b1), .val (.int (1 : Int32)), .val (.int (imax (0 : Int32) (imax (u1 + (1 : Int32)) (u3 + u5)))), .val (.int (imax (0 : Int32) (imax (u0 + (1 : Int32)) (u2 + u4))))] [(.int (imax (0 : Int32) (imax (u1 + (1 : Int32)) (u3 + u5)))), (.int (imax (imax (0 : Int32) (u1 + (1 : Int32))) (u3 + u5)))])) _
    refine XS.icmpNo X13.here hx rfl (hb hby at_105) rfl (teq hmx1).2 ?_
    show Steps p.tables e below (T13.setTop (mkF m 108 #[.val (.int u0), .val (.int u1), .val (.int u2), .val (.int u3), .val (.int u4), .val (.int u5), .val (.ref b1), .val (.int (1 : Int32)), .val (.int (imax (0 : Int32) (imax (u1 + (1 : Int32)) (u3 + u5)))), .val (.int (imax (0 : Int32) (imax (u0 + (1 : Int32)) (u2 + u4))))] [])) _
    refine XS.aload X13.here hx rfl (hb hby at_108) rfl rfl ?_
    show Steps p.tables e below (T13.setTop (mkF m 110 #[.val (.int u0), .val (.int u1), .val (.int u2), .val (.int u3), .val (.int u4), .val (.int u5), .val (.ref b1), .val (.int (1 : Int32)), .val (.int (imax (0 : Int32) (imax (u1 + (1 : Int32)) (u3 + u5)))), .val (.int (imax (0 : Int32) (imax (u0 + (1 : Int32)) (u2 + u4))))] [(.ref b1)])) _
    refine XS.iconst X13.here hx rfl (hb hby at_110) ?_
    show Steps p.tables e below (T13.setTop (mkF m 111 #[.val (.int u0), .val (.int u1), .val (.int u2), .val (.int u3), .val (.int u4), .val (.int u5), .val (.ref b1), .val (.int (1 : Int32)), .val (.int (imax (0 : Int32) (imax (u1 + (1 : Int32)) (u3 + u5)))), .val (.int (imax (0 : Int32) (imax (u0 + (1 : Int32)) (u2 + u4))))] [(.int (1 : Int32)), (.ref b1)])) _
    refine st14.trans ?_
    show Steps p.tables e below (T14.setTop (mkF m 114 #[.val (.int u0), .val (.int u1), .val (.int u2), .val (.int u3), .val (.int u4), .val (.int u5), .val (.ref b1), .val (.int (1 : Int32)), .val (.int (imax (0 : Int32) (imax (u1 + (1 : Int32)) (u3 + u5)))), .val (.int (imax (0 : Int32) (imax (u0 + (1 : Int32)) (u2 + u4))))] [(.int (imax (imax (0 : Int32) (u0 + (1 : Int32))) (u2 + u4)))])) _
    refine XS.iload X14.here hx rfl (hb hby at_114) rfl ?_
    show Steps p.tables e below (T14.setTop (mkF m 116 #[.val (.int u0), .val (.int u1), .val (.int u2), .val (.int u3), .val (.int u4), .val (.int u5), .val (.ref b1), .val (.int (1 : Int32)), .val (.int (imax (0 : Int32) (imax (u1 + (1 : Int32)) (u3 + u5)))), .val (.int (imax (0 : Int32) (imax (u0 + (1 : Int32)) (u2 + u4))))] [(.int (imax (0 : Int32) (imax (u0 + (1 : Int32)) (u2 + u4)))), (.int (imax (imax (0 : Int32) (u0 + (1 : Int32))) (u2 + u4)))])) _
    refine XS.icmpNo X14.here hx rfl (hb hby at_116) rfl (teq hmx2).2 ?_
    show Steps p.tables e below (T14.setTop (mkF m 119 #[.val (.int u0), .val (.int u1), .val (.int u2), .val (.int u3), .val (.int u4), .val (.int u5), .val (.ref b1), .val (.int (1 : Int32)), .val (.int (imax (0 : Int32) (imax (u1 + (1 : Int32)) (u3 + u5)))), .val (.int (imax (0 : Int32) (imax (u0 + (1 : Int32)) (u2 + u4))))] [])) _
    refine XS.iconst X14.here hx rfl (hb hby at_119) ?_
    show Steps p.tables e below (T14.setTop (mkF m 120 #[.val (.int u0), .val (.int u1), .val (.int u2), .val (.int u3), .val (.int u4), .val (.int u5), .val (.ref b1), .val (.int (1 : Int32)), .val (.int (imax (0 : Int32) (imax (u1 + (1 : Int32)) (u3 + u5)))), .val (.int (imax (0 : Int32) (imax (u0 + (1 : Int32)) (u2 + u4))))] [(.int (1 : Int32))])) _
    refine XS.goto X14.here hx rfl (pc0 := 120) (pc' := 124) rfl (hb hby at_120) (by decide) (by decide) ?_
    show Steps p.tables e below (T14.setTop (mkF m 124 #[.val (.int u0), .val (.int u1), .val (.int u2), .val (.int u3), .val (.int u4), .val (.int u5), .val (.ref b1), .val (.int (1 : Int32)), .val (.int (imax (0 : Int32) (imax (u1 + (1 : Int32)) (u3 + u5)))), .val (.int (imax (0 : Int32) (imax (u0 + (1 : Int32)) (u2 + u4))))] [(.int (1 : Int32))])) _
    exact retN X14 hx (t := .boolean) Bd.returns (by simp) (hb hby at_124) hr
  · exact ⟨rfl, N14⟩
theorem rm0 (l : Launch) (Z : State) (a0 : Array Value) (hw : ∀ d ∈ tables_1, d.before a0 Z = true) (w : Nat → Addr) (κ : Nat → ClassId) (h0 : Heap) (n0 : Nat) (Z0 : n0 ≤ h0.size) (K : Kon Z h0 w κ) (u0 u1 u2 u3 u4 u5 : Int32) :
    OM l Z x code maxLocals ret tables_1 room_1 #[(.int u0), (.int u1), (.int u2), (.int u3), (.int u4), (.int u5)] h0 (OF (some (.int (1 : Int32))) n0) := by
  have hmx1 : (imax (imax (0 : Int32) (u1 + (1 : Int32))) (u3 + u5)) = (imax (0 : Int32) (imax (u1 + (1 : Int32)) (u3 + u5))) := own_imax _ _
  have hmx2 : (imax (imax (0 : Int32) (u0 + (1 : Int32))) (u2 + u4)) = (imax (0 : Int32) (imax (u0 + (1 : Int32)) (u2 + u4))) := own_imax _ _
  exact rm0_15 l Z a0 hw w κ h0 n0 Z0 K u0 u1 u2 u3 u4 u5 hmx1 hmx2
set_option maxRecDepth 65536 in
set_option maxHeartbeats 40000000 in
theorem comes_1 {Post : Tables → Env → Array Value → State → Outcome → State → Prop} (hpost : ∀ tb e args s v u, (limb_1_1.after args s (.returned v) u = true ∧ limb_1_2.after args s (.returned v) u = true ∧ True) → FrameEnd s (.returned v) u (Jvm.fieldLocs frame_1_writes args s ++ Jvm.arrayLocs frame_1_arrays args s ++ Jvm.staticLocs frame_1_statics s) 24 128 → Post tb e args s (.returned v) u) :
    ArmFor flags0 classFile x code maxLocals ret World_1 tables_1 room_1 Calls_1 rest_1 Pre_1 Post := by
  intro l hfl _ _ p e ha hc hk s m args below hf hA hF happ hP
  obtain ⟨hcalls, hrest, hpre⟩ := hP
  obtain ⟨-, -, -, hnamed, -, -, -, hat⟩ := (Spec.applies_iff hf).mp happ
  obtain ⟨hg, hn⟩ := and_e (Cond.before_iff.mp (show (Jvm.Cond.and given_1 narrow_1).before args s = true from hpre))
  obtain ⟨g1a, g1b⟩ := and_e hg
  obtain ⟨g2a, g2b⟩ := and_e g1b
  obtain ⟨g3a, g3b⟩ := and_e g2b
  obtain ⟨g4a, g4b⟩ := and_e g3b
  obtain ⟨g5a, g5b⟩ := and_e g4b
  obtain ⟨g6a, g6b⟩ := and_e g5b
  obtain ⟨g7a, g7b⟩ := and_e hn
  obtain ⟨g8a, g8b⟩ := and_e g7b
  obtain ⟨g9a, g9b⟩ := and_e g8b
  obtain ⟨g10a, g10b⟩ := and_e g9b
  obtain ⟨v0, v1, v2, v3, v4, v5, rfl⟩ : ∃ v0 v1 v2 v3 v4 v5 : Value, args = #[v0, v1, v2, v3, v4, v5] := by
    have hs : args.size = 6 := by simpa [Cond.value, given_1] using g1a
    obtain ⟨L⟩ := args
    match L, hs with
    | [v0, v1, v2, v3, v4, v5], _ => exact ⟨v0, v1, v2, v3, v4, v5, rfl⟩
  have hw := fun d (hd : d ∈ tables_1) => atoms_spec (ws := Jvm.Cond.code x code maxLocals ret :: tables_1) hat d (List.mem_cons_of_mem _ hd)
  have hfit : Fit s := fun {y c} hc i hi => by
    obtain ⟨ha, rfl⟩ := Array.getElem?_eq_some_iff.mp hc
    have q := List.all_eq_true.mp ((Array.all_eq_true_iff_forall_mem.mp hF) _ (Array.getElem_mem ha)) i (List.mem_range.mpr hi)
    simpa [Array.getElem?_eq_getElem hi] using q
  obtain ⟨i0, ei0⟩ := is_v g2a
  obtain rfl : v0 = (.int i0) := Option.some.inj ei0
  obtain ⟨i1, ei1⟩ := is_v g3a
  obtain rfl : v1 = (.int i1) := Option.some.inj ei1
  obtain ⟨i2, ei2⟩ := is_v g4a
  obtain rfl : v2 = (.int i2) := Option.some.inj ei2
  obtain ⟨i3, ei3⟩ := is_v g5a
  obtain rfl : v3 = (.int i3) := Option.some.inj ei3
  obtain ⟨i4, ei4⟩ := is_v g6a
  obtain rfl : v4 = (.int i4) := Option.some.inj ei4
  obtain ⟨i5, ei5⟩ := is_v g6b
  obtain rfl : v5 = (.int i5) := Option.some.inj ei5
  obtain ⟨b0, ev0⟩ := arr_v g7a
  obtain ⟨b1, ev1⟩ := arr_v g10a
  obtain ⟨κ0, V0⟩ := own_arv (dv := (.int (0 : Int32))) hfit ev0 g7a g9a
  obtain ⟨κ1, V1⟩ := own_arv (dv := .null) hfit ev1 g10a g10b
  have K : Kon s s.heap (fun i => ([b0, b1] : List Addr).getD i 0) (fun i => ([κ0, κ1] : List ClassId).getD i 0) := ⟨Sta.start ev0 (Or.inr ⟨(hw _ (List.mem_of_getElem? (i := 2) rfl)), (hw _ (List.mem_of_getElem? (i := 10) rfl))⟩), Sta.start ev1 (Or.inr ⟨(hw _ (List.mem_of_getElem? (i := 2) rfl)), (hw _ (List.mem_of_getElem? (i := 14) rfl))⟩), Exa.start ev0 g8a, V0, V1⟩
  obtain ⟨n, o, h1, h2, h3, _, L, rfl, ⟨rfl, N⟩, hq⟩ := rm0 l s _ hw _ _ s.heap s.heap.size (Nat.le_refl _) K i0 i1 i2 i3 i4 i5 p e ha hc hk s m _ below hf ((Spec.applies_iff_loose hf).mp happ).1 ⟨rfl, State.Warmed39.refl s, rfl⟩ trivial
  refine ⟨n, _, h1, h2, h3, hpost _ _ _ _ _ _ ⟨Cond.after_iff.mpr rfl, Cond.after_iff.mpr (eq_i res_at (Term.int_eval (1)) rfl), trivial⟩ ⟨hq.1, hq.2.1, (hq.2.2.sift fun y hy => Or.inr (N y hy)).mono (by decide) (by decide)⟩⟩
theorem main_1_1 : Claimed_1_1 := comes_1 fun _ _ _ _ _ _ h hF => ⟨h.1, hF⟩
theorem main_1_2 : Claimed_1_2 := comes_1 fun _ _ _ _ _ _ h hF => ⟨h.2.1, hF⟩
end Jvm.Pilot.@@N@@
namespace Jvm.Pilot.@@N@@
open Jvm Jvm.ClassFile Sem Op Lib Jvm.Free Jvm.Stand Jvm.Pilot.@@N@@.Jvm.D
/-! MADE BY PROGRAM (witnessworld.py) out of the Statement's table words and the real class files: 15 classes; the members and pool entries that the words name. The judged class is class 1, her method 1. -/
namespace start1
open Jvm.ClassFile
def u (s : String) : CpInfo := .utf8 (stringToUtf16 s)
/-- a pool by its gaps: so many unusable entries, then the entry; so many at the end -/
def gap : Nat → List CpInfo → List CpInfo
  | 0, r => r
  | n + 1, r => .unusable :: gap n r
def poolList (es : List (Nat × CpInfo)) (last : Nat) : List CpInfo := es.foldr (fun e r => gap e.1 (e.2 :: r)) (gap last [])
def pool (es : List (Nat × CpInfo)) (last : Nat) : Array CpInfo := ⟨poolList es last⟩
def fileOf (pool : Array CpInfo) (this : Nat) (attrs : Array Attribute := #[]) (ms : Array MethodInfo := #[]) (fl : Nat := 33) (sup : Nat := 0) (ifs : Array Nat := #[]) (fds : Array FieldInfo := #[]) : ClassFile where
  minorVersion := 0
  majorVersion := 65
  constantPool := pool
  accessFlags := fl
  thisClass := this
  superClass := sup
  interfaces := ifs
  fields := fds
  methods := ms
  attributes := attrs
def plain (name : String) (sup : Option ClassId) : Class where
  name := name
  kind := .ordinary
  loader := none
  accessFlags := 33
  super := sup
  interfaces := #[]
  cf := none
  fields := #[]
  methods := #[]
  instanceTypes := #[]
  staticTypes := #[]
  resolved := #[]
  callSites := []
  init := .initialized
  statics := none
  mirror := none

def pool0 : Array CpInfo := pool [(5, u "<init>"), (0, u "()V"), (1, .class_ 10), (1, u "java/lang/Object")] 113

def k0c0 : Code := { maxStack := 0, maxLocals := 1, code := object_method_1_code, exceptionTable := #[], attributes := #[] }
def k0m0 : Method := { name := "<init>", desc := "()V", sig := { parameters := [], returnType := none }, accessFlags := 1, code := some k0c0 }
/-- java/lang/Object -/
def k0 : Class := { plain "java/lang/Object" none with
  accessFlags := 33
  interfaces := #[]
  cf := some (fileOf pool0 8 #[] #[{ accessFlags := 1, nameIndex := 5, descriptorIndex := 6, attributes := #[] }] 33 0 #[] #[])
  fields := #[]
  methods := #[k0m0]
  instanceTypes := #[]
  staticTypes := #[]
  resolved := Array.replicate 124 none
  statics := none }

def pool1 : Array CpInfo := pool [(2, .class_ 4), (0, .nameAndType 5 6), (0, u "java/lang/Object"), (0, u "<init>"), (0, u "()V"), (0, .class_ 8), (0, u "com/example/tight_tree/tighttree/Block"), (0, .methodref 7 3), (0, .methodref 7 11), (0, .nameAndType 12 13), (0, u "height"), (0, u "(Z)I"), (0, .methodref 7 15), (0, .nameAndType 16 17), (0, u "addNode"), (0, u "(III)V"), (0, .methodref 7 19), (0, .nameAndType 20 21), (0, u "addNodes"), (0, u "([II[IIIII)V"), (0, .methodref 23 24), (0, .class_ 25), (0, .nameAndType 26 27), (0, u "java/lang/Math"), (0, u "max"), (0, u "(II)I"), (0, .class_ 29), (0, u "com/example/tight_tree/tighttree/BlockHeightPinLaw"), (2, u "law"), (0, u "(IIIIII)Z")] 3

def k1m0 : Method := { name := "<init>", desc := "()V", sig := { parameters := [], returnType := none }, accessFlags := 1, code := none }
def k1c1 : Code := { maxStack := 8, maxLocals := 10, code := code, exceptionTable := #[], attributes := #[] }
def k1m1 : Method := { name := "law", desc := "(IIIIII)Z", sig := { parameters := [.int, .int, .int, .int, .int, .int], returnType := some .boolean }, accessFlags := 9, code := some k1c1 }
/-- com/example/tight_tree/tighttree/BlockHeightPinLaw -/
def k1 : Class := { plain "com/example/tight_tree/tighttree/BlockHeightPinLaw" (some 0) with
  accessFlags := 49
  interfaces := #[]
  cf := some (fileOf pool1 28 #[] #[{ accessFlags := 1, nameIndex := 5, descriptorIndex := 6, attributes := #[] }, { accessFlags := 9, nameIndex := 32, descriptorIndex := 33, attributes := #[] }] 49 2 #[] #[])
  fields := #[]
  methods := #[k1m0, k1m1]
  instanceTypes := #[]
  staticTypes := #[]
  resolved := Array.replicate 37 none
  statics := none }

def pool2 : Array CpInfo := pool [(1, .methodref 2 3), (0, .class_ 4), (0, .nameAndType 5 6), (0, u "java/lang/Object"), (0, u "<init>"), (0, u "()V"), (0, .fieldref 8 9), (0, .class_ 10), (0, .nameAndType 11 12), (0, u "com/example/tight_tree/tighttree/Block"), (0, u "NO_INTS"), (0, u "[I"), (0, .fieldref 8 14), (0, .nameAndType 15 12), (0, u "nodes"), (0, .fieldref 8 17), (0, .nameAndType 18 19), (0, u "NO_BLOCKS"), (0, u "[Lcom/example/tight_tree/tighttree/Block;"), (0, .fieldref 8 21), (0, .nameAndType 22 19), (0, u "parts"), (0, .fieldref 8 24), (0, .nameAndType 25 12), (0, u "placings"), (2, u "transposed"), (0, u "Lcom/example/tight_tree/tighttree/Block$Part;"), (0, .class_ 31), (0, u "com/example/tight_tree/tighttree/Block$Part"), (5, u "asIs"), (0, .fieldref 8 39), (0, .nameAndType 40 41), (0, u "nodeCount"), (0, u "I"), (0, .methodref 43 44), (0, .class_ 45), (0, .nameAndType 46 47), (0, u "java/util/Arrays"), (0, u "copyOf"), (0, u "([II)[I"), (2, u "partCount"), (4, .methodref 56 57), (0, .class_ 58), (0, .nameAndType 59 60), (0, u "java/lang/Math"), (0, u "max"), (0, u "(II)I"), (0, .methodref 8 62), (0, .nameAndType 63 64), (0, u "grow"), (0, u "(II)V"), (0, .class_ 66), (0, u "com/example/tight_tree/tighttree/Block$Run"), (0, .fieldref 8 68), (0, .nameAndType 69 70), (0, u "runs"), (0, u "Lcom/example/tight_tree/tighttree/Block$Run;"), (0, .methodref 65 72), (0, .nameAndType 5 73), (0, u "([II[IIILcom/example/tight_tree/tighttree/Block$Run;)V"), (16, u "width"), (3, u "height"), (2, u "rootX"), (2, u "rootY"), (0, .fieldref 8 102), (0, .nameAndType 94 41), (0, .fieldref 8 104), (0, .nameAndType 90 41), (22, u "(Z)I"), (9, u "EMPTY"), (0, u "Lcom/example/tight_tree/tighttree/Block;"), (0, u "MIRRORED"), (2, u "FLIPPED"), (7, u "addNode"), (0, u "(III)V"), (0, u "addNodes"), (0, u "([II[IIIII)V"), (7, .class_ 162), (0, u "com/example/tight_tree/tighttree/Block$Form")] 4

def k2c0 : Code := { maxStack := 2, maxLocals := 1, code := prog_7_method_1_code, exceptionTable := #[], attributes := #[] }
def k2m0 : Method := { name := "<init>", desc := "()V", sig := { parameters := [], returnType := none }, accessFlags := 0, code := some k2c0 }
def k2c1 : Code := { maxStack := 5, maxLocals := 4, code := prog_7_method_4_code, exceptionTable := #[], attributes := #[] }
def k2m1 : Method := { name := "addNode", desc := "(III)V", sig := { parameters := [.int, .int, .int], returnType := none }, accessFlags := 0, code := some k2c1 }
def k2c2 : Code := { maxStack := 9, maxLocals := 8, code := prog_7_method_5_code, exceptionTable := #[], attributes := #[] }
def k2m2 : Method := { name := "addNodes", desc := "([II[IIIII)V", sig := { parameters := [(.array .int), .int, (.array .int), .int, .int, .int, .int], returnType := none }, accessFlags := 0, code := some k2c2 }
def k2c3 : Code := { maxStack := 1, maxLocals := 2, code := prog_7_method_11_code, exceptionTable := #[], attributes := #[] }
def k2m3 : Method := { name := "height", desc := "(Z)I", sig := { parameters := [.boolean], returnType := some .int }, accessFlags := 0, code := some k2c3 }
def k2c4 : Code := { maxStack := 3, maxLocals := 3, code := prog_7_method_15_code, exceptionTable := #[], attributes := #[] }
def k2m4 : Method := { name := "grow", desc := "(II)V", sig := { parameters := [.int, .int], returnType := none }, accessFlags := 2, code := some k2c4 }
/-- com/example/tight_tree/tighttree/Block -/
def k2 : Class := { plain "com/example/tight_tree/tighttree/Block" (some 0) with
  accessFlags := 48
  interfaces := #[]
  cf := some (fileOf pool2 8 #[.nestMembers #[161, 65, 30]] #[{ accessFlags := 0, nameIndex := 5, descriptorIndex := 6, attributes := #[] }, { accessFlags := 0, nameIndex := 150, descriptorIndex := 151, attributes := #[] }, { accessFlags := 0, nameIndex := 152, descriptorIndex := 153, attributes := #[] }, { accessFlags := 0, nameIndex := 94, descriptorIndex := 127, attributes := #[] }, { accessFlags := 2, nameIndex := 63, descriptorIndex := 64, attributes := #[] }] 48 2 #[] #[{ accessFlags := 26, nameIndex := 11, descriptorIndex := 12, attributes := #[] }, { accessFlags := 26, nameIndex := 18, descriptorIndex := 19, attributes := #[] }, { accessFlags := 24, nameIndex := 137, descriptorIndex := 138, attributes := #[] }, { accessFlags := 26, nameIndex := 139, descriptorIndex := 41, attributes := #[] }, { accessFlags := 26, nameIndex := 142, descriptorIndex := 41, attributes := #[] }, { accessFlags := 2, nameIndex := 15, descriptorIndex := 12, attributes := #[] }, { accessFlags := 2, nameIndex := 40, descriptorIndex := 41, attributes := #[] }, { accessFlags := 2, nameIndex := 69, descriptorIndex := 70, attributes := #[] }, { accessFlags := 2, nameIndex := 22, descriptorIndex := 19, attributes := #[] }, { accessFlags := 2, nameIndex := 25, descriptorIndex := 12, attributes := #[] }, { accessFlags := 2, nameIndex := 50, descriptorIndex := 41, attributes := #[] }, { accessFlags := 2, nameIndex := 90, descriptorIndex := 41, attributes := #[] }, { accessFlags := 2, nameIndex := 94, descriptorIndex := 41, attributes := #[] }, { accessFlags := 2, nameIndex := 97, descriptorIndex := 41, attributes := #[] }, { accessFlags := 2, nameIndex := 100, descriptorIndex := 41, attributes := #[] }, { accessFlags := 2, nameIndex := 37, descriptorIndex := 29, attributes := #[] }, { accessFlags := 2, nameIndex := 28, descriptorIndex := 29, attributes := #[] }])
  fields := #[{ name := "NO_INTS", type := (.array .int), accessFlags := 26, slot := 0, constantValue := 0 }, { name := "NO_BLOCKS", type := (.array (.object "com/example/tight_tree/tighttree/Block")), accessFlags := 26, slot := 1, constantValue := 0 }, { name := "EMPTY", type := (.object "com/example/tight_tree/tighttree/Block"), accessFlags := 24, slot := 2, constantValue := 0 }, { name := "MIRRORED", type := .int, accessFlags := 26, slot := 3, constantValue := 0 }, { name := "FLIPPED", type := .int, accessFlags := 26, slot := 4, constantValue := 0 }, { name := "nodes", type := (.array .int), accessFlags := 2, slot := 0, constantValue := 0 }, { name := "nodeCount", type := .int, accessFlags := 2, slot := 1, constantValue := 0 }, { name := "runs", type := (.object "com/example/tight_tree/tighttree/Block$Run"), accessFlags := 2, slot := 2, constantValue := 0 }, { name := "parts", type := (.array (.object "com/example/tight_tree/tighttree/Block")), accessFlags := 2, slot := 3, constantValue := 0 }, { name := "placings", type := (.array .int), accessFlags := 2, slot := 4, constantValue := 0 }, { name := "partCount", type := .int, accessFlags := 2, slot := 5, constantValue := 0 }, { name := "width", type := .int, accessFlags := 2, slot := 6, constantValue := 0 }, { name := "height", type := .int, accessFlags := 2, slot := 7, constantValue := 0 }, { name := "rootX", type := .int, accessFlags := 2, slot := 8, constantValue := 0 }, { name := "rootY", type := .int, accessFlags := 2, slot := 9, constantValue := 0 }, { name := "asIs", type := (.object "com/example/tight_tree/tighttree/Block$Part"), accessFlags := 2, slot := 10, constantValue := 0 }, { name := "transposed", type := (.object "com/example/tight_tree/tighttree/Block$Part"), accessFlags := 2, slot := 11, constantValue := 0 }]
  methods := #[k2m0, k2m1, k2m2, k2m3, k2m4]
  instanceTypes := #[(.array .int), .int, (.object "com/example/tight_tree/tighttree/Block$Run"), (.array (.object "com/example/tight_tree/tighttree/Block")), (.array .int), .int, .int, .int, .int, .int, (.object "com/example/tight_tree/tighttree/Block$Part"), (.object "com/example/tight_tree/tighttree/Block$Part")]
  staticTypes := #[(.array .int), (.array (.object "com/example/tight_tree/tighttree/Block")), (.object "com/example/tight_tree/tighttree/Block"), .int, .int]
  resolved := ((Array.replicate 167 none).setIfInBounds 65 (some (.cls 7))).setIfInBounds 71 (some (.method ⟨7, 0⟩))
  statics := some 0 }

def pool3 : Array CpInfo := pool [(1, .class_ 2), (0, u "java/lang/Math"), (1, .class_ 6), (1, u "java/lang/Object"), (0, u "<init>"), (0, u "()V"), (89, .class_ 100), (1, u "java/lang/Math$RandomNumberGeneratorHolder"), (71, u "negativeZeroFloatBits"), (0, u "J"), (2, u "negativeZeroDoubleBits"), (21, u "max"), (2, u "min"), (43, u "$assertionsDisabled"), (0, u "Z"), (88, u "(II)I"), (2, u "twoToTheDoubleScaleDown"), (0, u "D"), (4, u "twoToTheDoubleScaleUp"), (9, u "E"), (3, u "PI"), (2, u "TAU"), (2, u "DEGREES_TO_RADIANS"), (0, u "RADIANS_TO_DEGREES")] 94

def k3m0 : Method := { name := "<init>", desc := "()V", sig := { parameters := [], returnType := none }, accessFlags := 2, code := none }
def k3c1 : Code := { maxStack := 2, maxLocals := 2, code := jdk_29_method_65_code, exceptionTable := #[], attributes := #[] }
def k3m1 : Method := { name := "max", desc := "(II)I", sig := { parameters := [.int, .int], returnType := some .int }, accessFlags := 9, code := some k3c1 }
def k3c2 : Code := { maxStack := 2, maxLocals := 2, code := jdk_29_method_69_code, exceptionTable := #[], attributes := #[] }
def k3m2 : Method := { name := "min", desc := "(II)I", sig := { parameters := [.int, .int], returnType := some .int }, accessFlags := 9, code := some k3c2 }
/-- java/lang/Math -/
def k3 : Class := { plain "java/lang/Math" (some 0) with
  accessFlags := 49
  interfaces := #[]
  cf := some (fileOf pool3 1 #[.nestMembers #[98]] #[{ accessFlags := 2, nameIndex := 7, descriptorIndex := 8, attributes := #[] }, { accessFlags := 9, nameIndex := 198, descriptorIndex := 335, attributes := #[] }, { accessFlags := 9, nameIndex := 201, descriptorIndex := 335, attributes := #[] }] 49 4 #[] #[{ accessFlags := 25, nameIndex := 354, descriptorIndex := 339, attributes := #[] }, { accessFlags := 25, nameIndex := 358, descriptorIndex := 339, attributes := #[] }, { accessFlags := 25, nameIndex := 361, descriptorIndex := 339, attributes := #[] }, { accessFlags := 26, nameIndex := 364, descriptorIndex := 339, attributes := #[] }, { accessFlags := 26, nameIndex := 365, descriptorIndex := 339, attributes := #[] }, { accessFlags := 26, nameIndex := 172, descriptorIndex := 173, attributes := #[] }, { accessFlags := 26, nameIndex := 176, descriptorIndex := 173, attributes := #[] }, { accessFlags := 8, nameIndex := 344, descriptorIndex := 339, attributes := #[] }, { accessFlags := 8, nameIndex := 338, descriptorIndex := 339, attributes := #[] }, { accessFlags := 4120, nameIndex := 245, descriptorIndex := 246, attributes := #[] }])
  fields := #[{ name := "E", type := .double, accessFlags := 25, slot := 0, constantValue := 0 }, { name := "PI", type := .double, accessFlags := 25, slot := 1, constantValue := 0 }, { name := "TAU", type := .double, accessFlags := 25, slot := 2, constantValue := 0 }, { name := "DEGREES_TO_RADIANS", type := .double, accessFlags := 26, slot := 3, constantValue := 0 }, { name := "RADIANS_TO_DEGREES", type := .double, accessFlags := 26, slot := 4, constantValue := 0 }, { name := "negativeZeroFloatBits", type := .long, accessFlags := 26, slot := 5, constantValue := 0 }, { name := "negativeZeroDoubleBits", type := .long, accessFlags := 26, slot := 6, constantValue := 0 }, { name := "twoToTheDoubleScaleUp", type := .double, accessFlags := 8, slot := 7, constantValue := 0 }, { name := "twoToTheDoubleScaleDown", type := .double, accessFlags := 8, slot := 8, constantValue := 0 }, { name := "$assertionsDisabled", type := .boolean, accessFlags := 4120, slot := 9, constantValue := 0 }]
  methods := #[k3m0, k3m1, k3m2]
  instanceTypes := #[]
  staticTypes := #[.double, .double, .double, .double, .double, .long, .long, .double, .double, .boolean]
  resolved := Array.replicate 460 none
  statics := none }

def pool4 : Array CpInfo := pool [(2, .class_ 4), (1, u "java/lang/Object"), (0, u "<init>"), (0, u "()V"), (7, .class_ 16), (1, u "java/util/Arrays"), (57, .class_ 76), (1, u "java/util/Arrays$NaturalOrder"), (36, .class_ 115), (1, u "java/util/Arrays$LegacyMergeSort"), (1, u "Z"), (32, .methodref 151 152), (0, .class_ 153), (0, .nameAndType 154 155), (0, u "java/lang/System"), (0, u "arraycopy"), (0, u "(Ljava/lang/Object;ILjava/lang/Object;II)V"), (146, u "copyOf"), (1, .methodref 305 306), (0, .class_ 307), (0, .nameAndType 308 309), (0, u "java/lang/Math"), (0, u "min"), (0, u "(II)I"), (65, .class_ 376), (0, u "java/util/Arrays$ArrayList"), (68, u "$assertionsDisabled"), (269, u "MIN_ARRAY_SORT_GRAN"), (0, u "I"), (2, u "INSERTIONSORT_THRESHOLD"), (151, u "([II)[I"), (103, .class_ 976), (0, u "java/util/Arrays$ArrayItr")] 52

def k4m0 : Method := { name := "<init>", desc := "()V", sig := { parameters := [], returnType := none }, accessFlags := 2, code := none }
def k4c1 : Code := { maxStack := 6, maxLocals := 3, code := jdk_65_method_123_code, exceptionTable := #[], attributes := #[] }
def k4m1 : Method := { name := "copyOf", desc := "([II)[I", sig := { parameters := [(.array .int), .int], returnType := some (.array .int) }, accessFlags := 9, code := some k4c1 }
/-- java/util/Arrays -/
def k4 : Class := { plain "java/util/Arrays" (some 0) with
  accessFlags := 49
  interfaces := #[]
  cf := some (fileOf pool4 14 #[.nestMembers #[975, 375, 113, 74]] #[{ accessFlags := 2, nameIndex := 5, descriptorIndex := 6, attributes := #[] }, { accessFlags := 9, nameIndex := 302, descriptorIndex := 871, attributes := #[] }] 49 2 #[] #[{ accessFlags := 26, nameIndex := 715, descriptorIndex := 716, attributes := #[] }, { accessFlags := 26, nameIndex := 719, descriptorIndex := 716, attributes := #[] }, { accessFlags := 4120, nameIndex := 445, descriptorIndex := 117, attributes := #[] }])
  fields := #[{ name := "MIN_ARRAY_SORT_GRAN", type := .int, accessFlags := 26, slot := 0, constantValue := 0 }, { name := "INSERTIONSORT_THRESHOLD", type := .int, accessFlags := 26, slot := 1, constantValue := 0 }, { name := "$assertionsDisabled", type := .boolean, accessFlags := 4120, slot := 2, constantValue := 0 }]
  methods := #[k4m0, k4m1]
  instanceTypes := #[]
  staticTypes := #[.int, .int, .boolean]
  resolved := Array.replicate 1029 none
  statics := none }

def pool5 : Array CpInfo := pool [(2, .class_ 4), (1, u "java/lang/Object"), (0, u "<init>"), (0, u "()V"), (1, .class_ 10), (1, u "java/lang/System"), (0, u "allowSecurityManager"), (0, u "I"), (16, u "cons"), (0, u "Ljava/io/Console;"), (77, .class_ 110), (1, u "java/lang/System$CallersHolder"), (43, u "initialErrStream"), (0, u "Ljava/io/PrintStream;"), (19, u "security"), (0, u "Ljava/lang/SecurityManager;"), (31, .class_ 209), (0, u "java/lang/System$1"), (7, u "props"), (0, u "Ljava/util/Properties;"), (2, u "lineSeparator"), (0, u "Ljava/lang/String;"), (96, .class_ 321), (1, u "java/lang/System$LoggerFinder"), (5, .class_ 328), (0, u "java/lang/System$Logger"), (67, u "err"), (2, u "out"), (91, u "notSupportedJnuEncoding"), (15, u "in"), (17, u "initialIn"), (0, u "Ljava/io/InputStream;"), (35, u "bootLayer"), (0, u "Ljava/lang/ModuleLayer;"), (99, .class_ 664), (0, u "java/lang/System$2"), (9, u "NEVER"), (2, u "MAYBE"), (49, u "arraycopy"), (0, u "(Ljava/lang/Object;ILjava/lang/Object;II)V"), (72, .class_ 802), (0, u "java/lang/System$Logger$Level")] 31

def k5m0 : Method := { name := "<init>", desc := "()V", sig := { parameters := [], returnType := none }, accessFlags := 2, code := none }
def k5m1 : Method := { name := "arraycopy", desc := "(Ljava/lang/Object;ILjava/lang/Object;II)V", sig := { parameters := [(.object "java/lang/Object"), .int, (.object "java/lang/Object"), .int, .int], returnType := none }, accessFlags := 265, code := none }
/-- java/lang/System -/
def k5 : Class := { plain "java/lang/System" (some 0) with
  accessFlags := 49
  interfaces := #[]
  cf := some (fileOf pool5 8 #[.nestMembers #[319, 327, 801, 108, 663, 208]] #[{ accessFlags := 2, nameIndex := 5, descriptorIndex := 6, attributes := #[] }, { accessFlags := 265, nameIndex := 727, descriptorIndex := 728, attributes := #[] }] 49 2 #[] #[{ accessFlags := 25, nameIndex := 507, descriptorIndex := 526, attributes := #[] }, { accessFlags := 25, nameIndex := 399, descriptorIndex := 155, attributes := #[] }, { accessFlags := 25, nameIndex := 396, descriptorIndex := 155, attributes := #[] }, { accessFlags := 10, nameIndex := 525, descriptorIndex := 526, attributes := #[] }, { accessFlags := 26, nameIndex := 674, descriptorIndex := 12, attributes := #[] }, { accessFlags := 26, nameIndex := 677, descriptorIndex := 12, attributes := #[] }, { accessFlags := 10, nameIndex := 11, descriptorIndex := 12, attributes := #[] }, { accessFlags := 74, nameIndex := 175, descriptorIndex := 176, attributes := #[] }, { accessFlags := 10, nameIndex := 491, descriptorIndex := 222, attributes := #[] }, { accessFlags := 74, nameIndex := 29, descriptorIndex := 30, attributes := #[] }, { accessFlags := 74, nameIndex := 154, descriptorIndex := 155, attributes := #[] }, { accessFlags := 10, nameIndex := 217, descriptorIndex := 218, attributes := #[] }, { accessFlags := 10, nameIndex := 221, descriptorIndex := 222, attributes := #[] }, { accessFlags := 8, nameIndex := 562, descriptorIndex := 563, attributes := #[] }])
  fields := #[{ name := "in", type := (.object "java/io/InputStream"), accessFlags := 25, slot := 0, constantValue := 0 }, { name := "out", type := (.object "java/io/PrintStream"), accessFlags := 25, slot := 1, constantValue := 0 }, { name := "err", type := (.object "java/io/PrintStream"), accessFlags := 25, slot := 2, constantValue := 0 }, { name := "initialIn", type := (.object "java/io/InputStream"), accessFlags := 10, slot := 3, constantValue := 0 }, { name := "NEVER", type := .int, accessFlags := 26, slot := 4, constantValue := 0 }, { name := "MAYBE", type := .int, accessFlags := 26, slot := 5, constantValue := 0 }, { name := "allowSecurityManager", type := .int, accessFlags := 10, slot := 6, constantValue := 0 }, { name := "security", type := (.object "java/lang/SecurityManager"), accessFlags := 74, slot := 7, constantValue := 0 }, { name := "notSupportedJnuEncoding", type := (.object "java/lang/String"), accessFlags := 10, slot := 8, constantValue := 0 }, { name := "cons", type := (.object "java/io/Console"), accessFlags := 74, slot := 9, constantValue := 0 }, { name := "initialErrStream", type := (.object "java/io/PrintStream"), accessFlags := 74, slot := 10, constantValue := 0 }, { name := "props", type := (.object "java/util/Properties"), accessFlags := 10, slot := 11, constantValue := 0 }, { name := "lineSeparator", type := (.object "java/lang/String"), accessFlags := 10, slot := 12, constantValue := 0 }, { name := "bootLayer", type := (.object "java/lang/ModuleLayer"), accessFlags := 8, slot := 13, constantValue := 0 }]
  methods := #[k5m0, k5m1]
  instanceTypes := #[]
  staticTypes := #[(.object "java/io/InputStream"), (.object "java/io/PrintStream"), (.object "java/io/PrintStream"), (.object "java/io/InputStream"), .int, .int, .int, (.object "java/lang/SecurityManager"), (.object "java/lang/String"), (.object "java/io/Console"), (.object "java/io/PrintStream"), (.object "java/util/Properties"), (.object "java/lang/String"), (.object "java/lang/ModuleLayer")]
  resolved := Array.replicate 834 none
  statics := none }

def pool6 : Array CpInfo := pool [(1, .methodref 2 3), (0, .class_ 4), (0, .nameAndType 5 6), (0, u "java/lang/Object"), (0, u "<init>"), (0, u "()V"), (0, .class_ 8), (0, u "java/lang/Record")] 13

def k6c0 : Code := { maxStack := 1, maxLocals := 1, code := jdk_30_method_1_code, exceptionTable := #[], attributes := #[] }
def k6m0 : Method := { name := "<init>", desc := "()V", sig := { parameters := [], returnType := none }, accessFlags := 4, code := some k6c0 }
/-- java/lang/Record -/
def k6 : Class := { plain "java/lang/Record" (some 0) with
  accessFlags := 1057
  interfaces := #[]
  cf := some (fileOf pool6 7 #[] #[{ accessFlags := 4, nameIndex := 5, descriptorIndex := 6, attributes := #[] }] 1057 2 #[] #[])
  fields := #[]
  methods := #[k6m0]
  instanceTypes := #[]
  staticTypes := #[]
  resolved := Array.replicate 22 none
  statics := none }

def pool7 : Array CpInfo := pool [(1, .methodref 2 3), (0, .class_ 4), (0, .nameAndType 5 6), (0, u "java/lang/Record"), (0, u "<init>"), (0, u "()V"), (0, .fieldref 8 9), (0, .class_ 10), (0, .nameAndType 11 12), (0, u "com/example/tight_tree/tighttree/Block$Run"), (0, u "ids"), (0, u "[I"), (0, .fieldref 8 14), (0, .nameAndType 15 16), (0, u "count"), (0, u "I"), (0, .fieldref 8 18), (0, .nameAndType 19 12), (0, u "offsets"), (0, .fieldref 8 21), (0, .nameAndType 22 16), (0, u "x"), (0, .fieldref 8 24), (0, .nameAndType 25 16), (0, u "y"), (0, .fieldref 8 27), (0, .nameAndType 28 29), (0, u "before"), (0, u "Lcom/example/tight_tree/tighttree/Block$Run;"), (12, u "([II[IIILcom/example/tight_tree/tighttree/Block$Run;)V"), (11, .class_ 55), (0, u "com/example/tight_tree/tighttree/Block")] 24

def k7c0 : Code := { maxStack := 2, maxLocals := 7, code := prog_10_method_1_code, exceptionTable := #[], attributes := #[] }
def k7m0 : Method := { name := "<init>", desc := "([II[IIILcom/example/tight_tree/tighttree/Block$Run;)V", sig := { parameters := [(.array .int), .int, (.array .int), .int, .int, (.object "com/example/tight_tree/tighttree/Block$Run")], returnType := none }, accessFlags := 2, code := some k7c0 }
/-- com/example/tight_tree/tighttree/Block$Run -/
def k7 : Class := { plain "com/example/tight_tree/tighttree/Block$Run" (some 6) with
  accessFlags := 48
  interfaces := #[]
  cf := some (fileOf pool7 8 #[.nestHost 54] #[{ accessFlags := 2, nameIndex := 5, descriptorIndex := 42, attributes := #[] }] 48 2 #[] #[{ accessFlags := 18, nameIndex := 11, descriptorIndex := 12, attributes := #[] }, { accessFlags := 18, nameIndex := 15, descriptorIndex := 16, attributes := #[] }, { accessFlags := 18, nameIndex := 19, descriptorIndex := 12, attributes := #[] }, { accessFlags := 18, nameIndex := 22, descriptorIndex := 16, attributes := #[] }, { accessFlags := 18, nameIndex := 25, descriptorIndex := 16, attributes := #[] }, { accessFlags := 18, nameIndex := 28, descriptorIndex := 29, attributes := #[] }])
  fields := #[{ name := "ids", type := (.array .int), accessFlags := 18, slot := 0, constantValue := 0 }, { name := "count", type := .int, accessFlags := 18, slot := 1, constantValue := 0 }, { name := "offsets", type := (.array .int), accessFlags := 18, slot := 2, constantValue := 0 }, { name := "x", type := .int, accessFlags := 18, slot := 3, constantValue := 0 }, { name := "y", type := .int, accessFlags := 18, slot := 4, constantValue := 0 }, { name := "before", type := (.object "com/example/tight_tree/tighttree/Block$Run"), accessFlags := 18, slot := 5, constantValue := 0 }]
  methods := #[k7m0]
  instanceTypes := #[(.array .int), .int, (.array .int), .int, .int, (.object "com/example/tight_tree/tighttree/Block$Run")]
  staticTypes := #[]
  resolved := Array.replicate 80 none
  statics := none }

def pool8 : Array CpInfo := pool [(1, u "java/lang/Cloneable"), (0, .class_ 1), (0, u "java/lang/Object"), (0, .class_ 3)] 3

/-- java/lang/Cloneable -/
def k8 : Class := { plain "java/lang/Cloneable" (some 0) with
  accessFlags := 1537
  interfaces := #[]
  cf := some (fileOf pool8 2 #[] #[] 1537 4 #[] #[])
  fields := #[]
  methods := #[]
  instanceTypes := #[]
  staticTypes := #[]
  resolved := Array.replicate 8 none
  statics := none }

def pool9 : Array CpInfo := pool [(1, u "java/io/Serializable"), (0, .class_ 1), (0, u "java/lang/Object"), (0, .class_ 3)] 3

/-- java/io/Serializable -/
def k9 : Class := { plain "java/io/Serializable" (some 0) with
  accessFlags := 1537
  interfaces := #[]
  cf := some (fileOf pool9 2 #[] #[] 1537 4 #[] #[])
  fields := #[]
  methods := #[]
  instanceTypes := #[]
  staticTypes := #[]
  resolved := Array.replicate 8 none
  statics := none }

/-- the primitive byte -/
def k10 : Class := { plain "byte" none with kind := .primitive 'B', accessFlags := 0x411 }
/-- [B -/
def k11 : Class := { plain "[B" (some 0) with kind := .array 10 .byte, interfaces := #[8, 9], accessFlags := 1041 }

/-- the primitive int -/
def k12 : Class := { plain "int" none with kind := .primitive 'I', accessFlags := 0x411 }
/-- [I -/
def k13 : Class := { plain "[I" (some 0) with kind := .array 12 .int, interfaces := #[8, 9], accessFlags := 1041 }

/-- [Lcom/example/tight_tree/tighttree/Block; -/
def k14 : Class := { plain "[Lcom/example/tight_tree/tighttree/Block;" (some 0) with kind := .array 2 (.object "com/example/tight_tree/tighttree/Block"), interfaces := #[8, 9], accessFlags := 1041 }

def heap : Heap := #[{ cls := 2, slots := #[.ref 1, .ref 2, .null, .int 0, .int 0], vm := .statics 2 },
  { cls := 13, slots := #[], vm := .none },
  { cls := 14, slots := #[], vm := .none }]
def classes : Array Class := #[k0, k1, k2, k3, k4, k5, k6, k7, k8, k9, k10, k11, k12, k13, k14]
def interned : List (Array UInt16 × Addr) := []
def slotsUsed : Nat := 5
def theMethod : MethodId := ⟨1, 1⟩
def args0 : Array Value := #[.int 1, .int 2, .int 3, .int 4, .int 5, .int 6]
def aboutOver (below : List Frame) : State where
  vm := { classes := classes, interned := interned.toArray }
  heap := heap
  slotsUsed := slotsUsed
  threads := #[{ frames := .invoking theMethod args0 :: below }]
def below0 : List Frame := [.native { method := ⟨0, 0⟩, args := #[] }]
def about1 : State := aboutOver below0
def p0 : Program := .bare "" "" ""
def e0 : Env := launch0.env 0 0 0
theorem w_frames : about1.frames = Frame.invoking theMethod args0 :: below0 := rfl
set_option maxRecDepth 65536 in
theorem w_args : argsFit about1.vm theMethod args0 = true := by decide +kernel
set_option maxRecDepth 65536 in
theorem w_heap : heapFits about1 = true := by decide +kernel
set_option maxRecDepth 65536 in
theorem w_runnable : about1.curStatus? = some .runnable := by decide +kernel
set_option maxRecDepth 65536 in
theorem w_alone : about1.alone = true := by decide +kernel
set_option maxRecDepth 65536 in
theorem w_named : about1.methodNamed? x = some theMethod := by decide +kernel
set_option maxRecDepth 65536 in
theorem w_hears : about1.hears theMethod below0 = true := by decide +kernel
set_option maxRecDepth 65536 in
theorem w_ripe : about1.ripe theMethod args0 below0 = true := by decide +kernel
theorem w_running : about1.status = .running := rfl
set_option maxRecDepth 65536 in
theorem w_room : about1.hasRoom e0.platform room_1 = true :=
  launch0.hasRoom_least _ room_1 (by decide +kernel) (by decide +kernel) (by decide +kernel) (by decide +kernel) (by decide +kernel) (by decide +kernel)
theorem allAtoms_all (ts : List Jvm.Cond) (a : Array Jvm.Value) (st : Jvm.State) : (allAtoms ts).before a st = ts.all (fun c => c.before a st) := by
  induction ts with
  | nil => rfl
  | cons c t ih =>
    show (Jvm.Cond.and c (allAtoms t)).before a st = _
    rw [Jvm.Cond.before_and, ih, List.all_cons]
def words1 : List Jvm.Cond := Jvm.Cond.code x code maxLocals ret :: tables_1
/-- a 'code' word, met by the world's own term for the bytes: nothing is compared byte by byte -/
theorem code_word {y : MethodName} {bytes : ByteArray} {mx : Nat} {rt : Option FieldType} {a : Array Value} {s : State} {m : MethodId} {meth : Method} {c : Code} (h1 : s.methodNamed? y = some m) (h2 : s.vm.method? m = some meth) (h3 : meth.code = some c) (h4 : c.code = bytes)
    (h5 : (c.maxLocals == mx && c.exceptionTable.isEmpty && decide (c.maxStack ≤ mostOperands) && decide (meth.sig.returnType = rt) && !meth.locks && decide (parseMethodDescriptor y.desc = some meth.sig)) = true) : (Jvm.Cond.code y bytes mx rt).before a s = true := by
  simp only [Bool.and_eq_true, beq_iff_eq, Bool.not_eq_true', decide_eq_true_eq] at h5
  obtain ⟨⟨⟨⟨⟨g1, g2⟩, g3⟩, g4⟩, g5⟩, g6⟩ := h5
  simp [Cond.before, Cond.holds, Cond.value, h1, h2, h3, h4, g1, g2, g3, g4, g5, g6]
def isCode : Jvm.Cond → Bool
  | .code _ _ _ _ => true
  | _ => false
theorem all_split {L : List Jvm.Cond} {P : Jvm.Cond → Bool} (h1 : L.all (fun c => isCode c || P c) = true) (h2 : ∀ c ∈ L.filter isCode, P c = true) : L.all P = true := by
  refine List.all_eq_true.mpr fun c hc => ?_
  have h := List.all_eq_true.mp h1 c hc
  rcases Bool.eq_false_or_eq_true (isCode c) with hi | hi
  · exact h2 c (List.mem_filter.mpr ⟨hc, hi⟩)
  · simpa [hi] using h
set_option maxRecDepth 65536 in
theorem w_c0 : (Jvm.Cond.code x code maxLocals ret).before args0 about1 = true := code_word (m := ⟨1, 1⟩) (meth := k1m1) (c := k1c1) (by decide +kernel) rfl rfl rfl (by decide +kernel)
set_option maxRecDepth 65536 in
theorem w_c1 : (Jvm.Cond.code ({ cls := "com/example/tight_tree/tighttree/Block", name := "<init>", desc := "()V" } : Jvm.MethodName) prog_7_method_1_code (1 : Nat) (Option.none : Option Jvm.ClassFile.FieldType)).before args0 about1 = true := code_word (m := ⟨2, 0⟩) (meth := k2m0) (c := k2c0) (by decide +kernel) rfl rfl rfl (by decide +kernel)
set_option maxRecDepth 65536 in
theorem w_c2 : (Jvm.Cond.code ({ cls := "java/lang/Object", name := "<init>", desc := "()V" } : Jvm.MethodName) object_method_1_code (1 : Nat) (Option.none : Option Jvm.ClassFile.FieldType)).before args0 about1 = true := code_word (m := ⟨0, 0⟩) (meth := k0m0) (c := k0c0) (by decide +kernel) rfl rfl rfl (by decide +kernel)
set_option maxRecDepth 65536 in
theorem w_c3 : (Jvm.Cond.code ({ cls := "com/example/tight_tree/tighttree/Block", name := "height", desc := "(Z)I" } : Jvm.MethodName) prog_7_method_11_code (2 : Nat) (Option.some Jvm.ClassFile.FieldType.int)).before args0 about1 = true := code_word (m := ⟨2, 3⟩) (meth := k2m3) (c := k2c3) (by decide +kernel) rfl rfl rfl (by decide +kernel)
set_option maxRecDepth 65536 in
theorem w_c4 : (Jvm.Cond.code ({ cls := "com/example/tight_tree/tighttree/Block", name := "addNode", desc := "(III)V" } : Jvm.MethodName) prog_7_method_4_code (4 : Nat) (Option.none : Option Jvm.ClassFile.FieldType)).before args0 about1 = true := code_word (m := ⟨2, 1⟩) (meth := k2m1) (c := k2c1) (by decide +kernel) rfl rfl rfl (by decide +kernel)
set_option maxRecDepth 65536 in
theorem w_c5 : (Jvm.Cond.code ({ cls := "java/lang/Math", name := "max", desc := "(II)I" } : Jvm.MethodName) jdk_29_method_65_code (2 : Nat) (Option.some Jvm.ClassFile.FieldType.int)).before args0 about1 = true := code_word (m := ⟨3, 1⟩) (meth := k3m1) (c := k3c1) (by decide +kernel) rfl rfl rfl (by decide +kernel)
set_option maxRecDepth 65536 in
theorem w_c6 : (Jvm.Cond.code ({ cls := "java/util/Arrays", name := "copyOf", desc := "([II)[I" } : Jvm.MethodName) jdk_65_method_123_code (3 : Nat) (Option.some (Jvm.ClassFile.FieldType.array Jvm.ClassFile.FieldType.int))).before args0 about1 = true := code_word (m := ⟨4, 1⟩) (meth := k4m1) (c := k4c1) (by decide +kernel) rfl rfl rfl (by decide +kernel)
set_option maxRecDepth 65536 in
theorem w_c7 : (Jvm.Cond.code ({ cls := "java/lang/Math", name := "min", desc := "(II)I" } : Jvm.MethodName) jdk_29_method_69_code (2 : Nat) (Option.some Jvm.ClassFile.FieldType.int)).before args0 about1 = true := code_word (m := ⟨3, 2⟩) (meth := k3m2) (c := k3c2) (by decide +kernel) rfl rfl rfl (by decide +kernel)
set_option maxRecDepth 65536 in
theorem w_c8 : (Jvm.Cond.code ({ cls := "com/example/tight_tree/tighttree/Block", name := "grow", desc := "(II)V" } : Jvm.MethodName) prog_7_method_15_code (3 : Nat) (Option.none : Option Jvm.ClassFile.FieldType)).before args0 about1 = true := code_word (m := ⟨2, 4⟩) (meth := k2m4) (c := k2c4) (by decide +kernel) rfl rfl rfl (by decide +kernel)
set_option maxRecDepth 65536 in
theorem w_c9 : (Jvm.Cond.code ({ cls := "com/example/tight_tree/tighttree/Block", name := "addNodes", desc := "([II[IIIII)V" } : Jvm.MethodName) prog_7_method_5_code (8 : Nat) (Option.none : Option Jvm.ClassFile.FieldType)).before args0 about1 = true := code_word (m := ⟨2, 2⟩) (meth := k2m2) (c := k2c2) (by decide +kernel) rfl rfl rfl (by decide +kernel)
set_option maxRecDepth 65536 in
theorem w_c10 : (Jvm.Cond.code ({ cls := "com/example/tight_tree/tighttree/Block$Run", name := "<init>", desc := "([II[IIILcom/example/tight_tree/tighttree/Block$Run;)V" } : Jvm.MethodName) prog_10_method_1_code (7 : Nat) (Option.none : Option Jvm.ClassFile.FieldType)).before args0 about1 = true := code_word (m := ⟨7, 0⟩) (meth := k7m0) (c := k7c0) (by decide +kernel) rfl rfl rfl (by decide +kernel)
set_option maxRecDepth 65536 in
theorem w_c11 : (Jvm.Cond.code ({ cls := "java/lang/Record", name := "<init>", desc := "()V" } : Jvm.MethodName) jdk_30_method_1_code (1 : Nat) (Option.none : Option Jvm.ClassFile.FieldType)).before args0 about1 = true := code_word (m := ⟨6, 0⟩) (meth := k6m0) (c := k6c0) (by decide +kernel) rfl rfl rfl (by decide +kernel)
def codes1 : List Jvm.Cond := [Jvm.Cond.code x code maxLocals ret, Jvm.Cond.code ({ cls := "com/example/tight_tree/tighttree/Block", name := "<init>", desc := "()V" } : Jvm.MethodName) prog_7_method_1_code (1 : Nat) (Option.none : Option Jvm.ClassFile.FieldType), Jvm.Cond.code ({ cls := "java/lang/Object", name := "<init>", desc := "()V" } : Jvm.MethodName) object_method_1_code (1 : Nat) (Option.none : Option Jvm.ClassFile.FieldType), Jvm.Cond.code ({ cls := "com/example/tight_tree/tighttree/Block", name := "height", desc := "(Z)I" } : Jvm.MethodName) prog_7_method_11_code (2 : Nat) (Option.some Jvm.ClassFile.FieldType.int), Jvm.Cond.code ({ cls := "com/example/tight_tree/tighttree/Block", name := "addNode", desc := "(III)V" } : Jvm.MethodName) prog_7_method_4_code (4 : Nat) (Option.none : Option Jvm.ClassFile.FieldType), Jvm.Cond.code ({ cls := "java/lang/Math", name := "max", desc := "(II)I" } : Jvm.MethodName) jdk_29_method_65_code (2 : Nat) (Option.some Jvm.ClassFile.FieldType.int), Jvm.Cond.code ({ cls := "java/util/Arrays", name := "copyOf", desc := "([II)[I" } : Jvm.MethodName) jdk_65_method_123_code (3 : Nat) (Option.some (Jvm.ClassFile.FieldType.array Jvm.ClassFile.FieldType.int)), Jvm.Cond.code ({ cls := "java/lang/Math", name := "min", desc := "(II)I" } : Jvm.MethodName) jdk_29_method_69_code (2 : Nat) (Option.some Jvm.ClassFile.FieldType.int), Jvm.Cond.code ({ cls := "com/example/tight_tree/tighttree/Block", name := "grow", desc := "(II)V" } : Jvm.MethodName) prog_7_method_15_code (3 : Nat) (Option.none : Option Jvm.ClassFile.FieldType), Jvm.Cond.code ({ cls := "com/example/tight_tree/tighttree/Block", name := "addNodes", desc := "([II[IIIII)V" } : Jvm.MethodName) prog_7_method_5_code (8 : Nat) (Option.none : Option Jvm.ClassFile.FieldType), Jvm.Cond.code ({ cls := "com/example/tight_tree/tighttree/Block$Run", name := "<init>", desc := "([II[IIILcom/example/tight_tree/tighttree/Block$Run;)V" } : Jvm.MethodName) prog_10_method_1_code (7 : Nat) (Option.none : Option Jvm.ClassFile.FieldType), Jvm.Cond.code ({ cls := "java/lang/Record", name := "<init>", desc := "()V" } : Jvm.MethodName) jdk_30_method_1_code (1 : Nat) (Option.none : Option Jvm.ClassFile.FieldType)]
set_option maxRecDepth 65536 in
theorem codes_eq : words1.filter isCode = codes1 := rfl
theorem w_codes : ∀ c ∈ words1.filter isCode, c.before args0 about1 = true := by
  rw [codes_eq]
  intro c hc
  simp only [codes1, List.mem_cons, List.not_mem_nil, or_false] at hc
  rcases hc with rfl | rfl | rfl | rfl | rfl | rfl | rfl | rfl | rfl | rfl | rfl | rfl
  · exact w_c0
  · exact w_c1
  · exact w_c2
  · exact w_c3
  · exact w_c4
  · exact w_c5
  · exact w_c6
  · exact w_c7
  · exact w_c8
  · exact w_c9
  · exact w_c10
  · exact w_c11
set_option maxRecDepth 65536 in
theorem w_t1 : (words1.take 24).all (fun c => isCode c || c.before args0 about1) = true := by decide +kernel
set_option maxRecDepth 65536 in
theorem w_t2 : ((words1.drop 24).take 24).all (fun c => isCode c || c.before args0 about1) = true := by decide +kernel
set_option maxRecDepth 65536 in
theorem w_t3 : (((words1.drop 24).drop 24).take 24).all (fun c => isCode c || c.before args0 about1) = true := by decide +kernel
set_option maxRecDepth 65536 in
theorem w_t4 : (((words1.drop 24).drop 24).drop 24).all (fun c => isCode c || c.before args0 about1) = true := by decide +kernel
theorem w_tables : (allAtoms (Jvm.Cond.code x code maxLocals ret :: tables_1)).before args0 about1 = true := by
  rw [allAtoms_all]
  show words1.all (fun c => c.before args0 about1) = true
  refine all_split ?_ w_codes
  rw [← List.take_append_drop 24 words1, List.all_append, w_t1, ← List.take_append_drop 24 (words1.drop 24), List.all_append, w_t2, ← List.take_append_drop 24 ((words1.drop 24).drop 24), List.all_append, w_t3, w_t4]
  rfl
set_option maxRecDepth 65536 in
theorem w_case : (Jvm.Cond.and given_1 narrow_1).before args0 about1 = true := by decide +kernel
theorem w_applies : (headSpec (Jvm.Cond.code x code maxLocals ret :: tables_1) room_1).applies x e0.platform about1 = true :=
  (Spec.applies_iff w_frames).mpr ⟨w_running, w_runnable, w_alone, w_named, w_hears, w_ripe, w_room, w_tables⟩
theorem atStart : AtStart classFile x code maxLocals ret World_1 tables_1 room_1 Calls_1 rest_1 Pre_1 launch0 p0 e0 about1 theMethod args0 below0 :=
  ⟨lists_1, trivial, launch0.admits_env _ _ _, launch0.least_env, fairChoices_fair.cas, fairChoices_fair.clock, w_frames, w_args, w_heap, w_applies, trivial, trivial, w_case⟩
end start1
theorem witness_1 : WitnessClaimed_1 := ⟨start1.p0, start1.e0, start1.about1, start1.theMethod, start1.args0, start1.below0, start1.atStart⟩
end Jvm.Pilot.@@N@@
