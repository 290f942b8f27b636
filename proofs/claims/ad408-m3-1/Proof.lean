import JvmDerived
import JvmDerived.Pilot.@@N@@Statement
import JvmDerived.Pilot.@@N@@Code
set_option linter.unusedVariables false
set_option linter.unusedSimpArgs false
namespace Jvm.RoadKit
open Sem ClassFile Op Lib Jvm.Stand Jvm.Free Jvm.LawKit
section New
variable {p : Program} {l : Launch} {e : Env} {R : Room} {s : State} {m : MethodId} {args : Array Value} {below : List Frame} {meth : Method} {c : Code} {T : State} {locs : List Loc} {cells slots : Nat}
theorem retI (X : Stand p l e R s m args below meth c T locs cells slots) (hx : p.tables.exec = Jvm.exec) {pc : Nat} {Ls : Array Slot} {z : Int32} {rest : List Value} (hret : meth.sig.returnType = some .int) (hd : decode c.code pc = .ok (.ireturn, 1)) {fs : List Frame}
    (hl : ∀ (f : JFrame) (acts : List Action), f.method = m → f.locked = none → f.entered = [] → (doReturn e (T.setTop f) acts (some (.int z))).1 = T.setFrames fs) : Steps p.tables e below (T.setTop (mkF m pc Ls (.int z :: rest))) (T.setFrames fs) := by
  have hm' : T.vm.method? m = some meth := X.method'
  have hn : narrow .int (.int z) = .int z := rfl
  show Steps p.tables e below (T.setTop { method := m, pc := pc, locals := Ls, stack := _ :: rest, locked := none }) _
  jvm_step X.here [X.here.top, hx, hd, hm', hret, hn]
  first | (intro acts; rw [hl _ acts rfl rfl rfl]) | rw [hl _ _ rfl rfl rfl]
  exact Steps.refl _
end New
end Jvm.RoadKit
namespace Jvm.Pilot.@@N@@
open Jvm Jvm.ClassFile Sem Op Lib Jvm.Free Jvm.Stand Jvm.LawKit Jvm.RoadKit Bundle Jvm.Pilot.@@N@@.Jvm.D
def QR (r : Option Value) (h0 : Heap) (n0 : Nat) (v : Option Value) (h : Heap) (L : List Loc) : Prop := v = r ∧ Fr n0 L ∧ h = h0
def QL (r : Option Value) (n0 : Nat) (v : Option Value) (h : Heap) (L : List Loc) : Prop := v = r ∧ Fr n0 L
theorem own_sta {s : State} {args : Array Value} {C n d K : String} (hi : (Jvm.Cond.initialized C).before args s = true) (hl : (Jvm.Cond.laysStatic C n d).before args s = true) (hx : (Jvm.Cond.exactly (.static C n d) K).value args s none s [] = some true) :
    ∃ a, (Term.static C n d).eval args s none [] s = some (.ref a) ∧ Sta s s.heap C n d (.ref a) ∧ Exa s s.heap a K := by
  obtain ⟨a, ev⟩ := exa_v hx
  exact ⟨a, ev, Sta.start ev (Or.inr ⟨hi, hl⟩), Exa.start ev hx⟩
theorem own_fld {s : State} {args : Array Value} {t : Term} {C n d : String} {k : Int32} {a : Addr} (ev : t.eval args s none [] s = some (.ref a)) (h : (Jvm.Cond.eq (.field t C n d) (.int k)).value args s none s [] = some true) : Fld s s.heap a C n d (.int k) := by
  obtain ⟨x, y, e1, e2, k1, k2⟩ := cmp_v (Or.inl h)
  rw [Term.int_eval] at e2
  cases e2
  obtain ⟨z, rfl⟩ := k2
  have hz : z = k := by simpa [Cond.value, e1, Term.int_eval] using h
  subst hz
  exact Fld.start ((fld_at ev).symm.trans e1)
theorem own_mod (x d : Int32) (n : Int) (hd : d.toInt = n) (hn : 0 < n) : 0 ≤ (HMod.hMod (x &&& (2147483647 : Int32)) d).toInt ∧ (HMod.hMod (x &&& (2147483647 : Int32)) d).toInt < n := by
  have h1 := (c_and x 2147483647 (by decide)).1
  have h2 := (c_irem (x &&& 2147483647) d n hd).1 h1
  have h3 : (HMod.hMod (x &&& (2147483647 : Int32)) d).toInt = (x &&& 2147483647).toInt % n := h2
  rw [h3]
  exact ⟨Int.emod_nonneg _ (by omega), Int.emod_lt_of_pos _ hn⟩
theorem own_is {x : Int32} (y : Int32) (h : x.toInt = y.toInt) : x = y := Int32.toInt_inj.mp h

def QV (h0 : Heap) (n0 : Nat) (v : Option Value) (h : Heap) (L : List Loc) : Prop := ∃ b, v = some (.ref b) ∧ n0 ≤ b ∧ h0.size ≤ b ∧ Fr n0 L ∧ Keep h0 h []
theorem own_stak0 {Z : State} {h h' : Heap} {C n d : String} {v : Value} (F : Sta Z h C n d v) (K : Keep h h' []) : Sta Z h' C n d v := by
  obtain ⟨cf, i, k, f, st, cell, h1, h2, h3, h4, h5, r⟩ := F
  exact ⟨cf, i, k, f, st, cell, h1, h2, h3, h4, K.2.1 _ _ h5 nin0, r⟩
theorem own_stak1 {Z : State} {h h' : Heap} {C n d C' : String} {v : Value} {a : Addr} (F : Sta Z h C n d v) (K : Keep h h' [a]) (E : Exa Z h a C') : Sta Z h' C n d v := by
  obtain ⟨cf, i, k, f, st, cell, h1, h2, h3, h4, h5, h6, r⟩ := F
  refine ⟨cf, i, k, f, st, cell, h1, h2, h3, h4, K.2.1 _ _ h5 (ninS (fun e => ?_) nin0), h6, r⟩
  obtain ⟨c', _, q1, -, -, q4, -⟩ := E
  rw [e] at h5
  cases h5.symm.trans q1
  rw [q4] at h6; cases h6
def Kd (k : Int32) (r a s i n : Addr) : Prop := (k = 0 ∧ r = a) ∨ (¬ k = 0 ∧ k = 1 ∧ r = s) ∨ (¬ k = 0 ∧ ¬ k = 1 ∧ k = 2 ∧ r = i) ∨ (¬ k = 0 ∧ ¬ k = 1 ∧ ¬ k = 2 ∧ r = n)
def Dl (k : Int32) (r a s i : Addr) : Prop := (k = 0 ∧ r = a) ∨ (¬ k = 0 ∧ k = 1 ∧ r = s) ∨ (¬ k = 0 ∧ ¬ k = 1 ∧ r = i)

theorem d1_0 : decode method_2_code 0 = .ok (.iload_n 0, 1) := by decide +kernel
theorem d1_1 : decode method_2_code 1 = .ok (.iconst 3, 1) := by decide +kernel
theorem d1_2 : decode method_2_code 2 = .ok (.iand, 1) := by decide +kernel
theorem d1_3 : decode method_2_code 3 = .ok (.istore_n 1, 1) := by decide +kernel
theorem d1_4 : decode method_2_code 4 = .ok (.iload_n 1, 1) := by decide +kernel
theorem d1_5 : decode method_2_code 5 = .ok (.ifCond .ne 7, 3) := by decide +kernel
theorem d1_8 : decode method_2_code 8 = .ok (.getstatic 7, 3) := by decide +kernel
theorem d1_11 : decode method_2_code 11 = .ok (.areturn, 1) := by decide +kernel
theorem pn_1 : plainName "com/example/hydrate/hydrate/mapping/IdGeneratorOnPinLaw" = true := by first | (simp [plainName, overriddenIn]; done) | decide +kernel
theorem ef_1 (m : MethodId) (x0 : Int32) : entryFrame m #[(.int x0)] 2 = mkF m 0 #[.val (.int x0), .unset] [] := by first | (simp [entryFrame, mkF, argsToLocals, Value.category]; done) | rfl
set_option maxRecDepth 65536 in
set_option maxHeartbeats 40000000 in
theorem rm1_f (l : Launch) (Z : State) (a0 : Array Value) (hw : ∀ d ∈ tables_1, d.before a0 Z = true) (ws : List Jvm.Cond) (p1 : Int32) (w_ASSIGNED : Addr) (w_SEQUENCE : Addr) (w_IDENTITY : Addr) (w_NATIVE : Addr) (h0 : Heap) (n0 : Nat) (Z0 : n0 ≤ h0.size) (S_ASSIGNED : Sta Z h0 "com/example/hydrate/hydrate/mapping/IdGenerator$Kind" "ASSIGNED" "Lcom/example/hydrate/hydrate/mapping/IdGenerator$Kind;" (.ref w_ASSIGNED)) (S_SEQUENCE : Sta Z h0 "com/example/hydrate/hydrate/mapping/IdGenerator$Kind" "SEQUENCE" "Lcom/example/hydrate/hydrate/mapping/IdGenerator$Kind;" (.ref w_SEQUENCE)) (S_IDENTITY : Sta Z h0 "com/example/hydrate/hydrate/mapping/IdGenerator$Kind" "IDENTITY" "Lcom/example/hydrate/hydrate/mapping/IdGenerator$Kind;" (.ref w_IDENTITY)) (S_NATIVE : Sta Z h0 "com/example/hydrate/hydrate/mapping/IdGenerator$Kind" "NATIVE" "Lcom/example/hydrate/hydrate/mapping/IdGenerator$Kind;" (.ref w_NATIVE)) (hc5 : (p1 &&& (3 : Int32)) = (0 : Int32)) :
    MetFree l (⟨"com/example/hydrate/hydrate/mapping/IdGeneratorOnPinLaw", "kindOf", "(I)Lcom/example/hydrate/hydrate/mapping/IdGenerator$Kind;"⟩ : MethodName) (head1 (Jvm.Cond.code (⟨"com/example/hydrate/hydrate/mapping/IdGeneratorOnPinLaw", "kindOf", "(I)Lcom/example/hydrate/hydrate/mapping/IdGenerator$Kind;"⟩ : MethodName) method_2_code 2 (some (.object "com/example/hydrate/hydrate/mapping/IdGenerator$Kind")) :: ws) ({ frames := 0, cells := 0, slots := 0, locals := 0 } : Room)) (fun a U => a = #[(.int p1)] ∧ Z.Warmed39 U.vm ∧ U.heap = h0) (fun _ _ _ _ _ => True) (fun _ U o U' => ∃ v L, o = .returned v ∧ QR (some (.ref w_ASSIGNED)) h0 n0 v U'.heap L ∧ FrameEnd U o U' L ({ frames := 0, cells := 0, slots := 0, locals := 0 } : Room).cells ({ frames := 0, cells := 0, slots := 0, locals := 0 } : Room).slots) := by
  refine MetFree.of_bodySF (plainFor_of_name pn_1) hisR ?_
  intro p e s m args below meth c s₁ Bd hml0 hP hK
  obtain ⟨rfl, hZ, hh⟩ := hP
  have hx := Bd.exec
  have hby := Bd.bytes
  have hml : c.maxLocals = 2 := hml0
  have hown : s.vm.findClass "com/example/hydrate/hydrate/mapping/IdGeneratorOnPinLaw" = some m.cls := findClass_of_methodNamed Bd.named
  have hnm := (name_of_methodNamed Bd.named Bd.method).1
  have X0 : Stand p l e ({ frames := 0, cells := 0, slots := 0, locals := 0 } : Room) s m #[(.int p1)] below meth c s₁ [] 0 0 := Stand.of_body Bd
  have e0 : s₁.heap = h0 := by rw [← hh, Bd.state]; rfl
  have N0 := Fr.nil n0
  have pre0 : ∀ t, Steps p.tables e below (s₁.setTop (mkF m 0 #[.val (.int p1), .unset] [])) t → Steps p.tables e below (s₁.setTop (entryFrame m #[(.int p1)] 2)) t := fun t k => castTop (ef_1 m p1) k
  obtain ⟨T2, X2, e2, st2⟩ := getS2 X0 hx hZ hown (host := "") (Or.inl (hw _ (List.mem_of_getElem? (i := 4) rfl))) Via.refl e0 S_ASSIGNED (g := (mkF m 8 #[.val (.int p1), .val (.int (p1 &&& (3 : Int32)))] [])) rfl (hb hby d1_8)
  obtain ⟨fs, hr, hrun, hended, hW, hsame⟩ := X2.leave (v := some (.ref w_ASSIGNED)) (fun h => by rw [Bd.returns] at h; cases h)
  refine ⟨_, _, pre0 _ ?_, hrun, hended, _, _, rfl, ?_, ⟨_, rfl⟩, hW, hsame.mono (by decide) (by decide)⟩
  · show Steps p.tables e below (s₁.setTop (mkF m 0 #[.val (.int p1), .unset] [])) _
    refine XS.iloadN X0.here hx rfl (hb hby d1_0) rfl ?_
    show Steps p.tables e below (s₁.setTop (mkF m 1 #[.val (.int p1), .unset] [(.int p1)])) _
    refine XS.iconst X0.here hx rfl (hb hby d1_1) ?_
    show Steps p.tables e below (s₁.setTop (mkF m 2 #[.val (.int p1), .unset] [(.int (3 : Int32)), (.int p1)])) _
    refine XS.iand X0.here hx rfl (hb hby d1_2) rfl ?_
    show Steps p.tables e below (s₁.setTop (mkF m 3 #[.val (.int p1), .unset] [(.int (p1 &&& (3 : Int32)))])) _
    refine XS.istoreN X0.here hx rfl (hb hby d1_3) rfl (l' := #[.val (.int p1), .val (.int (p1 &&& (3 : Int32)))]) rfl ?_
    show Steps p.tables e below (s₁.setTop (mkF m 4 #[.val (.int p1), .val (.int (p1 &&& (3 : Int32)))] [])) _
    refine XS.iloadN X0.here hx rfl (hb hby d1_4) rfl ?_
    show Steps p.tables e below (s₁.setTop (mkF m 5 #[.val (.int p1), .val (.int (p1 &&& (3 : Int32)))] [(.int (p1 &&& (3 : Int32)))])) _
    refine XS.ifNo X0.here hx rfl (hb hby d1_5) rfl ((if0 _ _).trans (teq hc5).2) ?_
    show Steps p.tables e below (s₁.setTop (mkF m 8 #[.val (.int p1), .val (.int (p1 &&& (3 : Int32)))] [])) _
    refine st2 _ ?_
    show Steps p.tables e below (T2.setTop (mkF m 11 #[.val (.int p1), .val (.int (p1 &&& (3 : Int32)))] [(.ref w_ASSIGNED)])) _
    jvm_step X2.here [X2.here.top, hx, (hb hby d1_11), X2.method', Bd.returns, Value.isRef, FieldType.isReference]
    first | (intro acts; rw [hr _ acts rfl rfl rfl]) | rw [hr _ _ rfl rfl rfl]
    exact Steps.refl _
  · show QR (some (.ref w_ASSIGNED)) h0 n0 _ T2.heap _
    rw [e2]
    exact ⟨rfl, N0, rfl⟩

theorem d1_12 : decode method_2_code 12 = .ok (.iload_n 1, 1) := by decide +kernel
theorem d1_13 : decode method_2_code 13 = .ok (.iconst 1, 1) := by decide +kernel
theorem d1_14 : decode method_2_code 14 = .ok (.if_icmp .ne 7, 3) := by decide +kernel
theorem d1_17 : decode method_2_code 17 = .ok (.getstatic 13, 3) := by decide +kernel
theorem d1_20 : decode method_2_code 20 = .ok (.areturn, 1) := by decide +kernel
set_option maxRecDepth 65536 in
set_option maxHeartbeats 40000000 in
theorem rm1_tf (l : Launch) (Z : State) (a0 : Array Value) (hw : ∀ d ∈ tables_1, d.before a0 Z = true) (ws : List Jvm.Cond) (p1 : Int32) (w_ASSIGNED : Addr) (w_SEQUENCE : Addr) (w_IDENTITY : Addr) (w_NATIVE : Addr) (h0 : Heap) (n0 : Nat) (Z0 : n0 ≤ h0.size) (S_ASSIGNED : Sta Z h0 "com/example/hydrate/hydrate/mapping/IdGenerator$Kind" "ASSIGNED" "Lcom/example/hydrate/hydrate/mapping/IdGenerator$Kind;" (.ref w_ASSIGNED)) (S_SEQUENCE : Sta Z h0 "com/example/hydrate/hydrate/mapping/IdGenerator$Kind" "SEQUENCE" "Lcom/example/hydrate/hydrate/mapping/IdGenerator$Kind;" (.ref w_SEQUENCE)) (S_IDENTITY : Sta Z h0 "com/example/hydrate/hydrate/mapping/IdGenerator$Kind" "IDENTITY" "Lcom/example/hydrate/hydrate/mapping/IdGenerator$Kind;" (.ref w_IDENTITY)) (S_NATIVE : Sta Z h0 "com/example/hydrate/hydrate/mapping/IdGenerator$Kind" "NATIVE" "Lcom/example/hydrate/hydrate/mapping/IdGenerator$Kind;" (.ref w_NATIVE)) (hc5 : ¬ ((p1 &&& (3 : Int32)) = (0 : Int32))) (hc14 : (p1 &&& (3 : Int32)) = (1 : Int32)) :
    MetFree l (⟨"com/example/hydrate/hydrate/mapping/IdGeneratorOnPinLaw", "kindOf", "(I)Lcom/example/hydrate/hydrate/mapping/IdGenerator$Kind;"⟩ : MethodName) (head1 (Jvm.Cond.code (⟨"com/example/hydrate/hydrate/mapping/IdGeneratorOnPinLaw", "kindOf", "(I)Lcom/example/hydrate/hydrate/mapping/IdGenerator$Kind;"⟩ : MethodName) method_2_code 2 (some (.object "com/example/hydrate/hydrate/mapping/IdGenerator$Kind")) :: ws) ({ frames := 0, cells := 0, slots := 0, locals := 0 } : Room)) (fun a U => a = #[(.int p1)] ∧ Z.Warmed39 U.vm ∧ U.heap = h0) (fun _ _ _ _ _ => True) (fun _ U o U' => ∃ v L, o = .returned v ∧ QR (some (.ref w_SEQUENCE)) h0 n0 v U'.heap L ∧ FrameEnd U o U' L ({ frames := 0, cells := 0, slots := 0, locals := 0 } : Room).cells ({ frames := 0, cells := 0, slots := 0, locals := 0 } : Room).slots) := by
  refine MetFree.of_bodySF (plainFor_of_name pn_1) hisR ?_
  intro p e s m args below meth c s₁ Bd hml0 hP hK
  obtain ⟨rfl, hZ, hh⟩ := hP
  have hx := Bd.exec
  have hby := Bd.bytes
  have hml : c.maxLocals = 2 := hml0
  have hown : s.vm.findClass "com/example/hydrate/hydrate/mapping/IdGeneratorOnPinLaw" = some m.cls := findClass_of_methodNamed Bd.named
  have hnm := (name_of_methodNamed Bd.named Bd.method).1
  have X0 : Stand p l e ({ frames := 0, cells := 0, slots := 0, locals := 0 } : Room) s m #[(.int p1)] below meth c s₁ [] 0 0 := Stand.of_body Bd
  have e0 : s₁.heap = h0 := by rw [← hh, Bd.state]; rfl
  have N0 := Fr.nil n0
  have pre0 : ∀ t, Steps p.tables e below (s₁.setTop (mkF m 0 #[.val (.int p1), .unset] [])) t → Steps p.tables e below (s₁.setTop (entryFrame m #[(.int p1)] 2)) t := fun t k => castTop (ef_1 m p1) k
  obtain ⟨T2, X2, e2, st2⟩ := getS2 X0 hx hZ hown (host := "") (Or.inl (hw _ (List.mem_of_getElem? (i := 59) rfl))) Via.refl e0 S_SEQUENCE (g := (mkF m 17 #[.val (.int p1), .val (.int (p1 &&& (3 : Int32)))] [])) rfl (hb hby d1_17)
  obtain ⟨fs, hr, hrun, hended, hW, hsame⟩ := X2.leave (v := some (.ref w_SEQUENCE)) (fun h => by rw [Bd.returns] at h; cases h)
  refine ⟨_, _, pre0 _ ?_, hrun, hended, _, _, rfl, ?_, ⟨_, rfl⟩, hW, hsame.mono (by decide) (by decide)⟩
  · show Steps p.tables e below (s₁.setTop (mkF m 0 #[.val (.int p1), .unset] [])) _
    refine XS.iloadN X0.here hx rfl (hb hby d1_0) rfl ?_
    show Steps p.tables e below (s₁.setTop (mkF m 1 #[.val (.int p1), .unset] [(.int p1)])) _
    refine XS.iconst X0.here hx rfl (hb hby d1_1) ?_
    show Steps p.tables e below (s₁.setTop (mkF m 2 #[.val (.int p1), .unset] [(.int (3 : Int32)), (.int p1)])) _
    refine XS.iand X0.here hx rfl (hb hby d1_2) rfl ?_
    show Steps p.tables e below (s₁.setTop (mkF m 3 #[.val (.int p1), .unset] [(.int (p1 &&& (3 : Int32)))])) _
    refine XS.istoreN X0.here hx rfl (hb hby d1_3) rfl (l' := #[.val (.int p1), .val (.int (p1 &&& (3 : Int32)))]) rfl ?_
    show Steps p.tables e below (s₁.setTop (mkF m 4 #[.val (.int p1), .val (.int (p1 &&& (3 : Int32)))] [])) _
    refine XS.iloadN X0.here hx rfl (hb hby d1_4) rfl ?_
    show Steps p.tables e below (s₁.setTop (mkF m 5 #[.val (.int p1), .val (.int (p1 &&& (3 : Int32)))] [(.int (p1 &&& (3 : Int32)))])) _
    refine XS.ifYes X0.here hx rfl (pc0 := 5) (pc' := 12) rfl (hb hby d1_5) rfl ((if0 _ _).trans (feq hc5).2) (by decide) (by decide) ?_
    show Steps p.tables e below (s₁.setTop (mkF m 12 #[.val (.int p1), .val (.int (p1 &&& (3 : Int32)))] [])) _
    refine XS.iloadN X0.here hx rfl (hb hby d1_12) rfl ?_
    show Steps p.tables e below (s₁.setTop (mkF m 13 #[.val (.int p1), .val (.int (p1 &&& (3 : Int32)))] [(.int (p1 &&& (3 : Int32)))])) _
    refine XS.iconst X0.here hx rfl (hb hby d1_13) ?_
    show Steps p.tables e below (s₁.setTop (mkF m 14 #[.val (.int p1), .val (.int (p1 &&& (3 : Int32)))] [(.int (1 : Int32)), (.int (p1 &&& (3 : Int32)))])) _
    refine XS.icmpNo X0.here hx rfl (hb hby d1_14) rfl (teq hc14).2 ?_
    show Steps p.tables e below (s₁.setTop (mkF m 17 #[.val (.int p1), .val (.int (p1 &&& (3 : Int32)))] [])) _
    refine st2 _ ?_
    show Steps p.tables e below (T2.setTop (mkF m 20 #[.val (.int p1), .val (.int (p1 &&& (3 : Int32)))] [(.ref w_SEQUENCE)])) _
    jvm_step X2.here [X2.here.top, hx, (hb hby d1_20), X2.method', Bd.returns, Value.isRef, FieldType.isReference]
    first | (intro acts; rw [hr _ acts rfl rfl rfl]) | rw [hr _ _ rfl rfl rfl]
    exact Steps.refl _
  · show QR (some (.ref w_SEQUENCE)) h0 n0 _ T2.heap _
    rw [e2]
    exact ⟨rfl, N0, rfl⟩

theorem d1_21 : decode method_2_code 21 = .ok (.iload_n 1, 1) := by decide +kernel
theorem d1_22 : decode method_2_code 22 = .ok (.iconst 2, 1) := by decide +kernel
theorem d1_23 : decode method_2_code 23 = .ok (.if_icmp .ne 7, 3) := by decide +kernel
theorem d1_26 : decode method_2_code 26 = .ok (.getstatic 16, 3) := by decide +kernel
theorem d1_29 : decode method_2_code 29 = .ok (.areturn, 1) := by decide +kernel
set_option maxRecDepth 65536 in
set_option maxHeartbeats 40000000 in
theorem rm1_ttf (l : Launch) (Z : State) (a0 : Array Value) (hw : ∀ d ∈ tables_1, d.before a0 Z = true) (ws : List Jvm.Cond) (p1 : Int32) (w_ASSIGNED : Addr) (w_SEQUENCE : Addr) (w_IDENTITY : Addr) (w_NATIVE : Addr) (h0 : Heap) (n0 : Nat) (Z0 : n0 ≤ h0.size) (S_ASSIGNED : Sta Z h0 "com/example/hydrate/hydrate/mapping/IdGenerator$Kind" "ASSIGNED" "Lcom/example/hydrate/hydrate/mapping/IdGenerator$Kind;" (.ref w_ASSIGNED)) (S_SEQUENCE : Sta Z h0 "com/example/hydrate/hydrate/mapping/IdGenerator$Kind" "SEQUENCE" "Lcom/example/hydrate/hydrate/mapping/IdGenerator$Kind;" (.ref w_SEQUENCE)) (S_IDENTITY : Sta Z h0 "com/example/hydrate/hydrate/mapping/IdGenerator$Kind" "IDENTITY" "Lcom/example/hydrate/hydrate/mapping/IdGenerator$Kind;" (.ref w_IDENTITY)) (S_NATIVE : Sta Z h0 "com/example/hydrate/hydrate/mapping/IdGenerator$Kind" "NATIVE" "Lcom/example/hydrate/hydrate/mapping/IdGenerator$Kind;" (.ref w_NATIVE)) (hc5 : ¬ ((p1 &&& (3 : Int32)) = (0 : Int32))) (hc14 : ¬ ((p1 &&& (3 : Int32)) = (1 : Int32))) (hc23 : (p1 &&& (3 : Int32)) = (2 : Int32)) :
    MetFree l (⟨"com/example/hydrate/hydrate/mapping/IdGeneratorOnPinLaw", "kindOf", "(I)Lcom/example/hydrate/hydrate/mapping/IdGenerator$Kind;"⟩ : MethodName) (head1 (Jvm.Cond.code (⟨"com/example/hydrate/hydrate/mapping/IdGeneratorOnPinLaw", "kindOf", "(I)Lcom/example/hydrate/hydrate/mapping/IdGenerator$Kind;"⟩ : MethodName) method_2_code 2 (some (.object "com/example/hydrate/hydrate/mapping/IdGenerator$Kind")) :: ws) ({ frames := 0, cells := 0, slots := 0, locals := 0 } : Room)) (fun a U => a = #[(.int p1)] ∧ Z.Warmed39 U.vm ∧ U.heap = h0) (fun _ _ _ _ _ => True) (fun _ U o U' => ∃ v L, o = .returned v ∧ QR (some (.ref w_IDENTITY)) h0 n0 v U'.heap L ∧ FrameEnd U o U' L ({ frames := 0, cells := 0, slots := 0, locals := 0 } : Room).cells ({ frames := 0, cells := 0, slots := 0, locals := 0 } : Room).slots) := by
  refine MetFree.of_bodySF (plainFor_of_name pn_1) hisR ?_
  intro p e s m args below meth c s₁ Bd hml0 hP hK
  obtain ⟨rfl, hZ, hh⟩ := hP
  have hx := Bd.exec
  have hby := Bd.bytes
  have hml : c.maxLocals = 2 := hml0
  have hown : s.vm.findClass "com/example/hydrate/hydrate/mapping/IdGeneratorOnPinLaw" = some m.cls := findClass_of_methodNamed Bd.named
  have hnm := (name_of_methodNamed Bd.named Bd.method).1
  have X0 : Stand p l e ({ frames := 0, cells := 0, slots := 0, locals := 0 } : Room) s m #[(.int p1)] below meth c s₁ [] 0 0 := Stand.of_body Bd
  have e0 : s₁.heap = h0 := by rw [← hh, Bd.state]; rfl
  have N0 := Fr.nil n0
  have pre0 : ∀ t, Steps p.tables e below (s₁.setTop (mkF m 0 #[.val (.int p1), .unset] [])) t → Steps p.tables e below (s₁.setTop (entryFrame m #[(.int p1)] 2)) t := fun t k => castTop (ef_1 m p1) k
  obtain ⟨T2, X2, e2, st2⟩ := getS2 X0 hx hZ hown (host := "") (Or.inl (hw _ (List.mem_of_getElem? (i := 60) rfl))) Via.refl e0 S_IDENTITY (g := (mkF m 26 #[.val (.int p1), .val (.int (p1 &&& (3 : Int32)))] [])) rfl (hb hby d1_26)
  obtain ⟨fs, hr, hrun, hended, hW, hsame⟩ := X2.leave (v := some (.ref w_IDENTITY)) (fun h => by rw [Bd.returns] at h; cases h)
  refine ⟨_, _, pre0 _ ?_, hrun, hended, _, _, rfl, ?_, ⟨_, rfl⟩, hW, hsame.mono (by decide) (by decide)⟩
  · show Steps p.tables e below (s₁.setTop (mkF m 0 #[.val (.int p1), .unset] [])) _
    refine XS.iloadN X0.here hx rfl (hb hby d1_0) rfl ?_
    show Steps p.tables e below (s₁.setTop (mkF m 1 #[.val (.int p1), .unset] [(.int p1)])) _
    refine XS.iconst X0.here hx rfl (hb hby d1_1) ?_
    show Steps p.tables e below (s₁.setTop (mkF m 2 #[.val (.int p1), .unset] [(.int (3 : Int32)), (.int p1)])) _
    refine XS.iand X0.here hx rfl (hb hby d1_2) rfl ?_
    show Steps p.tables e below (s₁.setTop (mkF m 3 #[.val (.int p1), .unset] [(.int (p1 &&& (3 : Int32)))])) _
    refine XS.istoreN X0.here hx rfl (hb hby d1_3) rfl (l' := #[.val (.int p1), .val (.int (p1 &&& (3 : Int32)))]) rfl ?_
    show Steps p.tables e below (s₁.setTop (mkF m 4 #[.val (.int p1), .val (.int (p1 &&& (3 : Int32)))] [])) _
    refine XS.iloadN X0.here hx rfl (hb hby d1_4) rfl ?_
    show Steps p.tables e below (s₁.setTop (mkF m 5 #[.val (.int p1), .val (.int (p1 &&& (3 : Int32)))] [(.int (p1 &&& (3 : Int32)))])) _
    refine XS.ifYes X0.here hx rfl (pc0 := 5) (pc' := 12) rfl (hb hby d1_5) rfl ((if0 _ _).trans (feq hc5).2) (by decide) (by decide) ?_
    show Steps p.tables e below (s₁.setTop (mkF m 12 #[.val (.int p1), .val (.int (p1 &&& (3 : Int32)))] [])) _
    refine XS.iloadN X0.here hx rfl (hb hby d1_12) rfl ?_
    show Steps p.tables e below (s₁.setTop (mkF m 13 #[.val (.int p1), .val (.int (p1 &&& (3 : Int32)))] [(.int (p1 &&& (3 : Int32)))])) _
    refine XS.iconst X0.here hx rfl (hb hby d1_13) ?_
    show Steps p.tables e below (s₁.setTop (mkF m 14 #[.val (.int p1), .val (.int (p1 &&& (3 : Int32)))] [(.int (1 : Int32)), (.int (p1 &&& (3 : Int32)))])) _
    refine XS.icmpYes X0.here hx rfl (pc0 := 14) (pc' := 21) rfl (hb hby d1_14) rfl (feq hc14).2 (by decide) (by decide) ?_
    show Steps p.tables e below (s₁.setTop (mkF m 21 #[.val (.int p1), .val (.int (p1 &&& (3 : Int32)))] [])) _
    refine XS.iloadN X0.here hx rfl (hb hby d1_21) rfl ?_
    show Steps p.tables e below (s₁.setTop (mkF m 22 #[.val (.int p1), .val (.int (p1 &&& (3 : Int32)))] [(.int (p1 &&& (3 : Int32)))])) _
    refine XS.iconst X0.here hx rfl (hb hby d1_22) ?_
    show Steps p.tables e below (s₁.setTop (mkF m 23 #[.val (.int p1), .val (.int (p1 &&& (3 : Int32)))] [(.int (2 : Int32)), (.int (p1 &&& (3 : Int32)))])) _
    refine XS.icmpNo X0.here hx rfl (hb hby d1_23) rfl (teq hc23).2 ?_
    show Steps p.tables e below (s₁.setTop (mkF m 26 #[.val (.int p1), .val (.int (p1 &&& (3 : Int32)))] [])) _
    refine st2 _ ?_
    show Steps p.tables e below (T2.setTop (mkF m 29 #[.val (.int p1), .val (.int (p1 &&& (3 : Int32)))] [(.ref w_IDENTITY)])) _
    jvm_step X2.here [X2.here.top, hx, (hb hby d1_29), X2.method', Bd.returns, Value.isRef, FieldType.isReference]
    first | (intro acts; rw [hr _ acts rfl rfl rfl]) | rw [hr _ _ rfl rfl rfl]
    exact Steps.refl _
  · show QR (some (.ref w_IDENTITY)) h0 n0 _ T2.heap _
    rw [e2]
    exact ⟨rfl, N0, rfl⟩

theorem d1_30 : decode method_2_code 30 = .ok (.getstatic 19, 3) := by decide +kernel
theorem d1_33 : decode method_2_code 33 = .ok (.areturn, 1) := by decide +kernel
set_option maxRecDepth 65536 in
set_option maxHeartbeats 40000000 in
theorem rm1_ttt (l : Launch) (Z : State) (a0 : Array Value) (hw : ∀ d ∈ tables_1, d.before a0 Z = true) (ws : List Jvm.Cond) (p1 : Int32) (w_ASSIGNED : Addr) (w_SEQUENCE : Addr) (w_IDENTITY : Addr) (w_NATIVE : Addr) (h0 : Heap) (n0 : Nat) (Z0 : n0 ≤ h0.size) (S_ASSIGNED : Sta Z h0 "com/example/hydrate/hydrate/mapping/IdGenerator$Kind" "ASSIGNED" "Lcom/example/hydrate/hydrate/mapping/IdGenerator$Kind;" (.ref w_ASSIGNED)) (S_SEQUENCE : Sta Z h0 "com/example/hydrate/hydrate/mapping/IdGenerator$Kind" "SEQUENCE" "Lcom/example/hydrate/hydrate/mapping/IdGenerator$Kind;" (.ref w_SEQUENCE)) (S_IDENTITY : Sta Z h0 "com/example/hydrate/hydrate/mapping/IdGenerator$Kind" "IDENTITY" "Lcom/example/hydrate/hydrate/mapping/IdGenerator$Kind;" (.ref w_IDENTITY)) (S_NATIVE : Sta Z h0 "com/example/hydrate/hydrate/mapping/IdGenerator$Kind" "NATIVE" "Lcom/example/hydrate/hydrate/mapping/IdGenerator$Kind;" (.ref w_NATIVE)) (hc5 : ¬ ((p1 &&& (3 : Int32)) = (0 : Int32))) (hc14 : ¬ ((p1 &&& (3 : Int32)) = (1 : Int32))) (hc23 : ¬ ((p1 &&& (3 : Int32)) = (2 : Int32))) :
    MetFree l (⟨"com/example/hydrate/hydrate/mapping/IdGeneratorOnPinLaw", "kindOf", "(I)Lcom/example/hydrate/hydrate/mapping/IdGenerator$Kind;"⟩ : MethodName) (head1 (Jvm.Cond.code (⟨"com/example/hydrate/hydrate/mapping/IdGeneratorOnPinLaw", "kindOf", "(I)Lcom/example/hydrate/hydrate/mapping/IdGenerator$Kind;"⟩ : MethodName) method_2_code 2 (some (.object "com/example/hydrate/hydrate/mapping/IdGenerator$Kind")) :: ws) ({ frames := 0, cells := 0, slots := 0, locals := 0 } : Room)) (fun a U => a = #[(.int p1)] ∧ Z.Warmed39 U.vm ∧ U.heap = h0) (fun _ _ _ _ _ => True) (fun _ U o U' => ∃ v L, o = .returned v ∧ QR (some (.ref w_NATIVE)) h0 n0 v U'.heap L ∧ FrameEnd U o U' L ({ frames := 0, cells := 0, slots := 0, locals := 0 } : Room).cells ({ frames := 0, cells := 0, slots := 0, locals := 0 } : Room).slots) := by
  refine MetFree.of_bodySF (plainFor_of_name pn_1) hisR ?_
  intro p e s m args below meth c s₁ Bd hml0 hP hK
  obtain ⟨rfl, hZ, hh⟩ := hP
  have hx := Bd.exec
  have hby := Bd.bytes
  have hml : c.maxLocals = 2 := hml0
  have hown : s.vm.findClass "com/example/hydrate/hydrate/mapping/IdGeneratorOnPinLaw" = some m.cls := findClass_of_methodNamed Bd.named
  have hnm := (name_of_methodNamed Bd.named Bd.method).1
  have X0 : Stand p l e ({ frames := 0, cells := 0, slots := 0, locals := 0 } : Room) s m #[(.int p1)] below meth c s₁ [] 0 0 := Stand.of_body Bd
  have e0 : s₁.heap = h0 := by rw [← hh, Bd.state]; rfl
  have N0 := Fr.nil n0
  have pre0 : ∀ t, Steps p.tables e below (s₁.setTop (mkF m 0 #[.val (.int p1), .unset] [])) t → Steps p.tables e below (s₁.setTop (entryFrame m #[(.int p1)] 2)) t := fun t k => castTop (ef_1 m p1) k
  obtain ⟨T2, X2, e2, st2⟩ := getS2 X0 hx hZ hown (host := "") (Or.inl (hw _ (List.mem_of_getElem? (i := 41) rfl))) Via.refl e0 S_NATIVE (g := (mkF m 30 #[.val (.int p1), .val (.int (p1 &&& (3 : Int32)))] [])) rfl (hb hby d1_30)
  obtain ⟨fs, hr, hrun, hended, hW, hsame⟩ := X2.leave (v := some (.ref w_NATIVE)) (fun h => by rw [Bd.returns] at h; cases h)
  refine ⟨_, _, pre0 _ ?_, hrun, hended, _, _, rfl, ?_, ⟨_, rfl⟩, hW, hsame.mono (by decide) (by decide)⟩
  · show Steps p.tables e below (s₁.setTop (mkF m 0 #[.val (.int p1), .unset] [])) _
    refine XS.iloadN X0.here hx rfl (hb hby d1_0) rfl ?_
    show Steps p.tables e below (s₁.setTop (mkF m 1 #[.val (.int p1), .unset] [(.int p1)])) _
    refine XS.iconst X0.here hx rfl (hb hby d1_1) ?_
    show Steps p.tables e below (s₁.setTop (mkF m 2 #[.val (.int p1), .unset] [(.int (3 : Int32)), (.int p1)])) _
    refine XS.iand X0.here hx rfl (hb hby d1_2) rfl ?_
    show Steps p.tables e below (s₁.setTop (mkF m 3 #[.val (.int p1), .unset] [(.int (p1 &&& (3 : Int32)))])) _
    refine XS.istoreN X0.here hx rfl (hb hby d1_3) rfl (l' := #[.val (.int p1), .val (.int (p1 &&& (3 : Int32)))]) rfl ?_
    show Steps p.tables e below (s₁.setTop (mkF m 4 #[.val (.int p1), .val (.int (p1 &&& (3 : Int32)))] [])) _
    refine XS.iloadN X0.here hx rfl (hb hby d1_4) rfl ?_
    show Steps p.tables e below (s₁.setTop (mkF m 5 #[.val (.int p1), .val (.int (p1 &&& (3 : Int32)))] [(.int (p1 &&& (3 : Int32)))])) _
    refine XS.ifYes X0.here hx rfl (pc0 := 5) (pc' := 12) rfl (hb hby d1_5) rfl ((if0 _ _).trans (feq hc5).2) (by decide) (by decide) ?_
    show Steps p.tables e below (s₁.setTop (mkF m 12 #[.val (.int p1), .val (.int (p1 &&& (3 : Int32)))] [])) _
    refine XS.iloadN X0.here hx rfl (hb hby d1_12) rfl ?_
    show Steps p.tables e below (s₁.setTop (mkF m 13 #[.val (.int p1), .val (.int (p1 &&& (3 : Int32)))] [(.int (p1 &&& (3 : Int32)))])) _
    refine XS.iconst X0.here hx rfl (hb hby d1_13) ?_
    show Steps p.tables e below (s₁.setTop (mkF m 14 #[.val (.int p1), .val (.int (p1 &&& (3 : Int32)))] [(.int (1 : Int32)), (.int (p1 &&& (3 : Int32)))])) _
    refine XS.icmpYes X0.here hx rfl (pc0 := 14) (pc' := 21) rfl (hb hby d1_14) rfl (feq hc14).2 (by decide) (by decide) ?_
    show Steps p.tables e below (s₁.setTop (mkF m 21 #[.val (.int p1), .val (.int (p1 &&& (3 : Int32)))] [])) _
    refine XS.iloadN X0.here hx rfl (hb hby d1_21) rfl ?_
    show Steps p.tables e below (s₁.setTop (mkF m 22 #[.val (.int p1), .val (.int (p1 &&& (3 : Int32)))] [(.int (p1 &&& (3 : Int32)))])) _
    refine XS.iconst X0.here hx rfl (hb hby d1_22) ?_
    show Steps p.tables e below (s₁.setTop (mkF m 23 #[.val (.int p1), .val (.int (p1 &&& (3 : Int32)))] [(.int (2 : Int32)), (.int (p1 &&& (3 : Int32)))])) _
    refine XS.icmpYes X0.here hx rfl (pc0 := 23) (pc' := 30) rfl (hb hby d1_23) rfl (feq hc23).2 (by decide) (by decide) ?_
    show Steps p.tables e below (s₁.setTop (mkF m 30 #[.val (.int p1), .val (.int (p1 &&& (3 : Int32)))] [])) _
    refine st2 _ ?_
    show Steps p.tables e below (T2.setTop (mkF m 33 #[.val (.int p1), .val (.int (p1 &&& (3 : Int32)))] [(.ref w_NATIVE)])) _
    jvm_step X2.here [X2.here.top, hx, (hb hby d1_33), X2.method', Bd.returns, Value.isRef, FieldType.isReference]
    first | (intro acts; rw [hr _ acts rfl rfl rfl]) | rw [hr _ _ rfl rfl rfl]
    exact Steps.refl _
  · show QR (some (.ref w_NATIVE)) h0 n0 _ T2.heap _
    rw [e2]
    exact ⟨rfl, N0, rfl⟩

theorem rm1 (l : Launch) (Z : State) (a0 : Array Value) (hw : ∀ d ∈ tables_1, d.before a0 Z = true) (ws : List Jvm.Cond) (p1 : Int32) (w_ASSIGNED : Addr) (w_SEQUENCE : Addr) (w_IDENTITY : Addr) (w_NATIVE : Addr) (r : Addr) (h0 : Heap) (n0 : Nat) (Z0 : n0 ≤ h0.size) (S_ASSIGNED : Sta Z h0 "com/example/hydrate/hydrate/mapping/IdGenerator$Kind" "ASSIGNED" "Lcom/example/hydrate/hydrate/mapping/IdGenerator$Kind;" (.ref w_ASSIGNED)) (S_SEQUENCE : Sta Z h0 "com/example/hydrate/hydrate/mapping/IdGenerator$Kind" "SEQUENCE" "Lcom/example/hydrate/hydrate/mapping/IdGenerator$Kind;" (.ref w_SEQUENCE)) (S_IDENTITY : Sta Z h0 "com/example/hydrate/hydrate/mapping/IdGenerator$Kind" "IDENTITY" "Lcom/example/hydrate/hydrate/mapping/IdGenerator$Kind;" (.ref w_IDENTITY)) (S_NATIVE : Sta Z h0 "com/example/hydrate/hydrate/mapping/IdGenerator$Kind" "NATIVE" "Lcom/example/hydrate/hydrate/mapping/IdGenerator$Kind;" (.ref w_NATIVE)) (hr : Kd (p1 &&& (3 : Int32)) r w_ASSIGNED w_SEQUENCE w_IDENTITY w_NATIVE) :
    MetFree l (⟨"com/example/hydrate/hydrate/mapping/IdGeneratorOnPinLaw", "kindOf", "(I)Lcom/example/hydrate/hydrate/mapping/IdGenerator$Kind;"⟩ : MethodName) (head1 (Jvm.Cond.code (⟨"com/example/hydrate/hydrate/mapping/IdGeneratorOnPinLaw", "kindOf", "(I)Lcom/example/hydrate/hydrate/mapping/IdGenerator$Kind;"⟩ : MethodName) method_2_code 2 (some (.object "com/example/hydrate/hydrate/mapping/IdGenerator$Kind")) :: ws) ({ frames := 0, cells := 0, slots := 0, locals := 0 } : Room)) (fun a U => a = #[(.int p1)] ∧ Z.Warmed39 U.vm ∧ U.heap = h0) (fun _ _ _ _ _ => True) (fun _ U o U' => ∃ v L, o = .returned v ∧ QR (some (.ref r)) h0 n0 v U'.heap L ∧ FrameEnd U o U' L ({ frames := 0, cells := 0, slots := 0, locals := 0 } : Room).cells ({ frames := 0, cells := 0, slots := 0, locals := 0 } : Room).slots) := by
  rcases hr with ⟨h1, hv⟩ | ⟨h1, h2, hv⟩ | ⟨h1, h2, h3, hv⟩ | ⟨h1, h2, h3, hv⟩
  · rw [hv]; exact rm1_f l Z a0 hw ws p1 w_ASSIGNED w_SEQUENCE w_IDENTITY w_NATIVE h0 n0 Z0 S_ASSIGNED S_SEQUENCE S_IDENTITY S_NATIVE h1
  · rw [hv]; exact rm1_tf l Z a0 hw ws p1 w_ASSIGNED w_SEQUENCE w_IDENTITY w_NATIVE h0 n0 Z0 S_ASSIGNED S_SEQUENCE S_IDENTITY S_NATIVE h1 h2
  · rw [hv]; exact rm1_ttf l Z a0 hw ws p1 w_ASSIGNED w_SEQUENCE w_IDENTITY w_NATIVE h0 n0 Z0 S_ASSIGNED S_SEQUENCE S_IDENTITY S_NATIVE h1 h2 h3
  · rw [hv]; exact rm1_ttt l Z a0 hw ws p1 w_ASSIGNED w_SEQUENCE w_IDENTITY w_NATIVE h0 n0 Z0 S_ASSIGNED S_SEQUENCE S_IDENTITY S_NATIVE h1 h2 h3

theorem d2_0 : decode method_3_code 0 = .ok (.iload_n 0, 1) := by decide +kernel
theorem d2_1 : decode method_3_code 1 = .ok (.ldc 22, 2) := by decide +kernel
theorem d2_3 : decode method_3_code 3 = .ok (.iand, 1) := by decide +kernel
theorem d2_4 : decode method_3_code 4 = .ok (.iconst 3, 1) := by decide +kernel
theorem d2_5 : decode method_3_code 5 = .ok (.irem, 1) := by decide +kernel
theorem d2_6 : decode method_3_code 6 = .ok (.istore_n 1, 1) := by decide +kernel
theorem d2_7 : decode method_3_code 7 = .ok (.iload_n 1, 1) := by decide +kernel
theorem d2_8 : decode method_3_code 8 = .ok (.ifCond .ne 7, 3) := by decide +kernel
theorem d2_11 : decode method_3_code 11 = .ok (.getstatic 23, 3) := by decide +kernel
theorem d2_14 : decode method_3_code 14 = .ok (.areturn, 1) := by decide +kernel
theorem pn_2 : plainName "com/example/hydrate/hydrate/mapping/IdGeneratorOnPinLaw" = true := by first | (simp [plainName, overriddenIn]; done) | decide +kernel
theorem ef_2 (m : MethodId) (x0 : Int32) : entryFrame m #[(.int x0)] 2 = mkF m 0 #[.val (.int x0), .unset] [] := by first | (simp [entryFrame, mkF, argsToLocals, Value.category]; done) | rfl
set_option maxRecDepth 65536 in
set_option maxHeartbeats 40000000 in
theorem rm2_f (l : Launch) (Z : State) (a0 : Array Value) (hw : ∀ d ∈ tables_1, d.before a0 Z = true) (ws : List Jvm.Cond) (p1 : Int32) (w_H2 : Addr) (w_POSTGRESQL : Addr) (w_MARIADB : Addr) (h0 : Heap) (n0 : Nat) (Z0 : n0 ≤ h0.size) (S_H2 : Sta Z h0 "com/example/hydrate/hydrate/dialect/Dialect" "H2" "Lcom/example/hydrate/hydrate/dialect/Dialect;" (.ref w_H2)) (S_POSTGRESQL : Sta Z h0 "com/example/hydrate/hydrate/dialect/Dialect" "POSTGRESQL" "Lcom/example/hydrate/hydrate/dialect/Dialect;" (.ref w_POSTGRESQL)) (S_MARIADB : Sta Z h0 "com/example/hydrate/hydrate/dialect/Dialect" "MARIADB" "Lcom/example/hydrate/hydrate/dialect/Dialect;" (.ref w_MARIADB)) (hc8 : (HMod.hMod (p1 &&& (2147483647 : Int32)) (3 : Int32)) = (0 : Int32)) :
    MetFree l (⟨"com/example/hydrate/hydrate/mapping/IdGeneratorOnPinLaw", "dialectOf", "(I)Lcom/example/hydrate/hydrate/dialect/Dialect;"⟩ : MethodName) (head1 (Jvm.Cond.code (⟨"com/example/hydrate/hydrate/mapping/IdGeneratorOnPinLaw", "dialectOf", "(I)Lcom/example/hydrate/hydrate/dialect/Dialect;"⟩ : MethodName) method_3_code 2 (some (.object "com/example/hydrate/hydrate/dialect/Dialect")) :: ws) ({ frames := 0, cells := 0, slots := 0, locals := 0 } : Room)) (fun a U => a = #[(.int p1)] ∧ Z.Warmed39 U.vm ∧ U.heap = h0) (fun _ _ _ _ _ => True) (fun _ U o U' => ∃ v L, o = .returned v ∧ QR (some (.ref w_H2)) h0 n0 v U'.heap L ∧ FrameEnd U o U' L ({ frames := 0, cells := 0, slots := 0, locals := 0 } : Room).cells ({ frames := 0, cells := 0, slots := 0, locals := 0 } : Room).slots) := by
  refine MetFree.of_bodySF (plainFor_of_name pn_2) hisR ?_
  intro p e s m args below meth c s₁ Bd hml0 hP hK
  obtain ⟨rfl, hZ, hh⟩ := hP
  have hx := Bd.exec
  have hby := Bd.bytes
  have hml : c.maxLocals = 2 := hml0
  have hown : s.vm.findClass "com/example/hydrate/hydrate/mapping/IdGeneratorOnPinLaw" = some m.cls := findClass_of_methodNamed Bd.named
  have hnm := (name_of_methodNamed Bd.named Bd.method).1
  have X0 : Stand p l e ({ frames := 0, cells := 0, slots := 0, locals := 0 } : Room) s m #[(.int p1)] below meth c s₁ [] 0 0 := Stand.of_body Bd
  have e0 : s₁.heap = h0 := by rw [← hh, Bd.state]; rfl
  have N0 := Fr.nil n0
  have pre0 : ∀ t, Steps p.tables e below (s₁.setTop (mkF m 0 #[.val (.int p1), .unset] [])) t → Steps p.tables e below (s₁.setTop (entryFrame m #[(.int p1)] 2)) t := fun t k => castTop (ef_2 m p1) k
  obtain ⟨T2, X2, e2, st2⟩ := getS2 X0 hx hZ hown (host := "") (Or.inl (hw _ (List.mem_of_getElem? (i := 11) rfl))) Via.refl e0 S_H2 (g := (mkF m 11 #[.val (.int p1), .val (.int (HMod.hMod (p1 &&& (2147483647 : Int32)) (3 : Int32)))] [])) rfl (hb hby d2_11)
  obtain ⟨fs, hr, hrun, hended, hW, hsame⟩ := X2.leave (v := some (.ref w_H2)) (fun h => by rw [Bd.returns] at h; cases h)
  refine ⟨_, _, pre0 _ ?_, hrun, hended, _, _, rfl, ?_, ⟨_, rfl⟩, hW, hsame.mono (by decide) (by decide)⟩
  · show Steps p.tables e below (s₁.setTop (mkF m 0 #[.val (.int p1), .unset] [])) _
    refine XS.iloadN X0.here hx rfl (hb hby d2_0) rfl ?_
    show Steps p.tables e below (s₁.setTop (mkF m 1 #[.val (.int p1), .unset] [(.int p1)])) _
    refine X0.ldcInt hx hown (mvT hZ (hw _ (List.mem_of_getElem? (i := 10) rfl))) (g := (mkF m 1 #[.val (.int p1), .unset] [(.int p1)])) rfl (hb hby d2_1) _ ?_
    show Steps p.tables e below (s₁.setTop (mkF m 3 #[.val (.int p1), .unset] [(.int (2147483647 : Int32)), (.int p1)])) _
    refine XS.iand X0.here hx rfl (hb hby d2_3) rfl ?_
    show Steps p.tables e below (s₁.setTop (mkF m 4 #[.val (.int p1), .unset] [(.int (p1 &&& (2147483647 : Int32)))])) _
    refine XS.iconst X0.here hx rfl (hb hby d2_4) ?_
    show Steps p.tables e below (s₁.setTop (mkF m 5 #[.val (.int p1), .unset] [(.int (3 : Int32)), (.int (p1 &&& (2147483647 : Int32)))])) _
    refine iremM X0 hx rfl (hb hby d2_5) rfl (by decide) ?_
    show Steps p.tables e below (s₁.setTop (mkF m 6 #[.val (.int p1), .unset] [(.int (HMod.hMod (p1 &&& (2147483647 : Int32)) (3 : Int32)))])) _
    refine XS.istoreN X0.here hx rfl (hb hby d2_6) rfl (l' := #[.val (.int p1), .val (.int (HMod.hMod (p1 &&& (2147483647 : Int32)) (3 : Int32)))]) rfl ?_
    show Steps p.tables e below (s₁.setTop (mkF m 7 #[.val (.int p1), .val (.int (HMod.hMod (p1 &&& (2147483647 : Int32)) (3 : Int32)))] [])) _
    refine XS.iloadN X0.here hx rfl (hb hby d2_7) rfl ?_
    show Steps p.tables e below (s₁.setTop (mkF m 8 #[.val (.int p1), .val (.int (HMod.hMod (p1 &&& (2147483647 : Int32)) (3 : Int32)))] [(.int (HMod.hMod (p1 &&& (2147483647 : Int32)) (3 : Int32)))])) _
    refine XS.ifNo X0.here hx rfl (hb hby d2_8) rfl ((if0 _ _).trans (teq hc8).2) ?_
    show Steps p.tables e below (s₁.setTop (mkF m 11 #[.val (.int p1), .val (.int (HMod.hMod (p1 &&& (2147483647 : Int32)) (3 : Int32)))] [])) _
    refine st2 _ ?_
    show Steps p.tables e below (T2.setTop (mkF m 14 #[.val (.int p1), .val (.int (HMod.hMod (p1 &&& (2147483647 : Int32)) (3 : Int32)))] [(.ref w_H2)])) _
    jvm_step X2.here [X2.here.top, hx, (hb hby d2_14), X2.method', Bd.returns, Value.isRef, FieldType.isReference]
    first | (intro acts; rw [hr _ acts rfl rfl rfl]) | rw [hr _ _ rfl rfl rfl]
    exact Steps.refl _
  · show QR (some (.ref w_H2)) h0 n0 _ T2.heap _
    rw [e2]
    exact ⟨rfl, N0, rfl⟩

theorem d2_15 : decode method_3_code 15 = .ok (.iload_n 1, 1) := by decide +kernel
theorem d2_16 : decode method_3_code 16 = .ok (.iconst 1, 1) := by decide +kernel
theorem d2_17 : decode method_3_code 17 = .ok (.if_icmp .ne 7, 3) := by decide +kernel
theorem d2_20 : decode method_3_code 20 = .ok (.getstatic 29, 3) := by decide +kernel
theorem d2_23 : decode method_3_code 23 = .ok (.areturn, 1) := by decide +kernel
set_option maxRecDepth 65536 in
set_option maxHeartbeats 40000000 in
theorem rm2_tf (l : Launch) (Z : State) (a0 : Array Value) (hw : ∀ d ∈ tables_1, d.before a0 Z = true) (ws : List Jvm.Cond) (p1 : Int32) (w_H2 : Addr) (w_POSTGRESQL : Addr) (w_MARIADB : Addr) (h0 : Heap) (n0 : Nat) (Z0 : n0 ≤ h0.size) (S_H2 : Sta Z h0 "com/example/hydrate/hydrate/dialect/Dialect" "H2" "Lcom/example/hydrate/hydrate/dialect/Dialect;" (.ref w_H2)) (S_POSTGRESQL : Sta Z h0 "com/example/hydrate/hydrate/dialect/Dialect" "POSTGRESQL" "Lcom/example/hydrate/hydrate/dialect/Dialect;" (.ref w_POSTGRESQL)) (S_MARIADB : Sta Z h0 "com/example/hydrate/hydrate/dialect/Dialect" "MARIADB" "Lcom/example/hydrate/hydrate/dialect/Dialect;" (.ref w_MARIADB)) (hc8 : ¬ ((HMod.hMod (p1 &&& (2147483647 : Int32)) (3 : Int32)) = (0 : Int32))) (hc17 : (HMod.hMod (p1 &&& (2147483647 : Int32)) (3 : Int32)) = (1 : Int32)) :
    MetFree l (⟨"com/example/hydrate/hydrate/mapping/IdGeneratorOnPinLaw", "dialectOf", "(I)Lcom/example/hydrate/hydrate/dialect/Dialect;"⟩ : MethodName) (head1 (Jvm.Cond.code (⟨"com/example/hydrate/hydrate/mapping/IdGeneratorOnPinLaw", "dialectOf", "(I)Lcom/example/hydrate/hydrate/dialect/Dialect;"⟩ : MethodName) method_3_code 2 (some (.object "com/example/hydrate/hydrate/dialect/Dialect")) :: ws) ({ frames := 0, cells := 0, slots := 0, locals := 0 } : Room)) (fun a U => a = #[(.int p1)] ∧ Z.Warmed39 U.vm ∧ U.heap = h0) (fun _ _ _ _ _ => True) (fun _ U o U' => ∃ v L, o = .returned v ∧ QR (some (.ref w_POSTGRESQL)) h0 n0 v U'.heap L ∧ FrameEnd U o U' L ({ frames := 0, cells := 0, slots := 0, locals := 0 } : Room).cells ({ frames := 0, cells := 0, slots := 0, locals := 0 } : Room).slots) := by
  refine MetFree.of_bodySF (plainFor_of_name pn_2) hisR ?_
  intro p e s m args below meth c s₁ Bd hml0 hP hK
  obtain ⟨rfl, hZ, hh⟩ := hP
  have hx := Bd.exec
  have hby := Bd.bytes
  have hml : c.maxLocals = 2 := hml0
  have hown : s.vm.findClass "com/example/hydrate/hydrate/mapping/IdGeneratorOnPinLaw" = some m.cls := findClass_of_methodNamed Bd.named
  have hnm := (name_of_methodNamed Bd.named Bd.method).1
  have X0 : Stand p l e ({ frames := 0, cells := 0, slots := 0, locals := 0 } : Room) s m #[(.int p1)] below meth c s₁ [] 0 0 := Stand.of_body Bd
  have e0 : s₁.heap = h0 := by rw [← hh, Bd.state]; rfl
  have N0 := Fr.nil n0
  have pre0 : ∀ t, Steps p.tables e below (s₁.setTop (mkF m 0 #[.val (.int p1), .unset] [])) t → Steps p.tables e below (s₁.setTop (entryFrame m #[(.int p1)] 2)) t := fun t k => castTop (ef_2 m p1) k
  obtain ⟨T2, X2, e2, st2⟩ := getS2 X0 hx hZ hown (host := "") (Or.inl (hw _ (List.mem_of_getElem? (i := 47) rfl))) Via.refl e0 S_POSTGRESQL (g := (mkF m 20 #[.val (.int p1), .val (.int (HMod.hMod (p1 &&& (2147483647 : Int32)) (3 : Int32)))] [])) rfl (hb hby d2_20)
  obtain ⟨fs, hr, hrun, hended, hW, hsame⟩ := X2.leave (v := some (.ref w_POSTGRESQL)) (fun h => by rw [Bd.returns] at h; cases h)
  refine ⟨_, _, pre0 _ ?_, hrun, hended, _, _, rfl, ?_, ⟨_, rfl⟩, hW, hsame.mono (by decide) (by decide)⟩
  · show Steps p.tables e below (s₁.setTop (mkF m 0 #[.val (.int p1), .unset] [])) _
    refine XS.iloadN X0.here hx rfl (hb hby d2_0) rfl ?_
    show Steps p.tables e below (s₁.setTop (mkF m 1 #[.val (.int p1), .unset] [(.int p1)])) _
    refine X0.ldcInt hx hown (mvT hZ (hw _ (List.mem_of_getElem? (i := 10) rfl))) (g := (mkF m 1 #[.val (.int p1), .unset] [(.int p1)])) rfl (hb hby d2_1) _ ?_
    show Steps p.tables e below (s₁.setTop (mkF m 3 #[.val (.int p1), .unset] [(.int (2147483647 : Int32)), (.int p1)])) _
    refine XS.iand X0.here hx rfl (hb hby d2_3) rfl ?_
    show Steps p.tables e below (s₁.setTop (mkF m 4 #[.val (.int p1), .unset] [(.int (p1 &&& (2147483647 : Int32)))])) _
    refine XS.iconst X0.here hx rfl (hb hby d2_4) ?_
    show Steps p.tables e below (s₁.setTop (mkF m 5 #[.val (.int p1), .unset] [(.int (3 : Int32)), (.int (p1 &&& (2147483647 : Int32)))])) _
    refine iremM X0 hx rfl (hb hby d2_5) rfl (by decide) ?_
    show Steps p.tables e below (s₁.setTop (mkF m 6 #[.val (.int p1), .unset] [(.int (HMod.hMod (p1 &&& (2147483647 : Int32)) (3 : Int32)))])) _
    refine XS.istoreN X0.here hx rfl (hb hby d2_6) rfl (l' := #[.val (.int p1), .val (.int (HMod.hMod (p1 &&& (2147483647 : Int32)) (3 : Int32)))]) rfl ?_
    show Steps p.tables e below (s₁.setTop (mkF m 7 #[.val (.int p1), .val (.int (HMod.hMod (p1 &&& (2147483647 : Int32)) (3 : Int32)))] [])) _
    refine XS.iloadN X0.here hx rfl (hb hby d2_7) rfl ?_
    show Steps p.tables e below (s₁.setTop (mkF m 8 #[.val (.int p1), .val (.int (HMod.hMod (p1 &&& (2147483647 : Int32)) (3 : Int32)))] [(.int (HMod.hMod (p1 &&& (2147483647 : Int32)) (3 : Int32)))])) _
    refine XS.ifYes X0.here hx rfl (pc0 := 8) (pc' := 15) rfl (hb hby d2_8) rfl ((if0 _ _).trans (feq hc8).2) (by decide) (by decide) ?_
    show Steps p.tables e below (s₁.setTop (mkF m 15 #[.val (.int p1), .val (.int (HMod.hMod (p1 &&& (2147483647 : Int32)) (3 : Int32)))] [])) _
    refine XS.iloadN X0.here hx rfl (hb hby d2_15) rfl ?_
    show Steps p.tables e below (s₁.setTop (mkF m 16 #[.val (.int p1), .val (.int (HMod.hMod (p1 &&& (2147483647 : Int32)) (3 : Int32)))] [(.int (HMod.hMod (p1 &&& (2147483647 : Int32)) (3 : Int32)))])) _
    refine XS.iconst X0.here hx rfl (hb hby d2_16) ?_
    show Steps p.tables e below (s₁.setTop (mkF m 17 #[.val (.int p1), .val (.int (HMod.hMod (p1 &&& (2147483647 : Int32)) (3 : Int32)))] [(.int (1 : Int32)), (.int (HMod.hMod (p1 &&& (2147483647 : Int32)) (3 : Int32)))])) _
    refine XS.icmpNo X0.here hx rfl (hb hby d2_17) rfl (teq hc17).2 ?_
    show Steps p.tables e below (s₁.setTop (mkF m 20 #[.val (.int p1), .val (.int (HMod.hMod (p1 &&& (2147483647 : Int32)) (3 : Int32)))] [])) _
    refine st2 _ ?_
    show Steps p.tables e below (T2.setTop (mkF m 23 #[.val (.int p1), .val (.int (HMod.hMod (p1 &&& (2147483647 : Int32)) (3 : Int32)))] [(.ref w_POSTGRESQL)])) _
    jvm_step X2.here [X2.here.top, hx, (hb hby d2_23), X2.method', Bd.returns, Value.isRef, FieldType.isReference]
    first | (intro acts; rw [hr _ acts rfl rfl rfl]) | rw [hr _ _ rfl rfl rfl]
    exact Steps.refl _
  · show QR (some (.ref w_POSTGRESQL)) h0 n0 _ T2.heap _
    rw [e2]
    exact ⟨rfl, N0, rfl⟩

theorem d2_24 : decode method_3_code 24 = .ok (.getstatic 32, 3) := by decide +kernel
theorem d2_27 : decode method_3_code 27 = .ok (.areturn, 1) := by decide +kernel
set_option maxRecDepth 65536 in
set_option maxHeartbeats 40000000 in
theorem rm2_tt (l : Launch) (Z : State) (a0 : Array Value) (hw : ∀ d ∈ tables_1, d.before a0 Z = true) (ws : List Jvm.Cond) (p1 : Int32) (w_H2 : Addr) (w_POSTGRESQL : Addr) (w_MARIADB : Addr) (h0 : Heap) (n0 : Nat) (Z0 : n0 ≤ h0.size) (S_H2 : Sta Z h0 "com/example/hydrate/hydrate/dialect/Dialect" "H2" "Lcom/example/hydrate/hydrate/dialect/Dialect;" (.ref w_H2)) (S_POSTGRESQL : Sta Z h0 "com/example/hydrate/hydrate/dialect/Dialect" "POSTGRESQL" "Lcom/example/hydrate/hydrate/dialect/Dialect;" (.ref w_POSTGRESQL)) (S_MARIADB : Sta Z h0 "com/example/hydrate/hydrate/dialect/Dialect" "MARIADB" "Lcom/example/hydrate/hydrate/dialect/Dialect;" (.ref w_MARIADB)) (hc8 : ¬ ((HMod.hMod (p1 &&& (2147483647 : Int32)) (3 : Int32)) = (0 : Int32))) (hc17 : ¬ ((HMod.hMod (p1 &&& (2147483647 : Int32)) (3 : Int32)) = (1 : Int32))) :
    MetFree l (⟨"com/example/hydrate/hydrate/mapping/IdGeneratorOnPinLaw", "dialectOf", "(I)Lcom/example/hydrate/hydrate/dialect/Dialect;"⟩ : MethodName) (head1 (Jvm.Cond.code (⟨"com/example/hydrate/hydrate/mapping/IdGeneratorOnPinLaw", "dialectOf", "(I)Lcom/example/hydrate/hydrate/dialect/Dialect;"⟩ : MethodName) method_3_code 2 (some (.object "com/example/hydrate/hydrate/dialect/Dialect")) :: ws) ({ frames := 0, cells := 0, slots := 0, locals := 0 } : Room)) (fun a U => a = #[(.int p1)] ∧ Z.Warmed39 U.vm ∧ U.heap = h0) (fun _ _ _ _ _ => True) (fun _ U o U' => ∃ v L, o = .returned v ∧ QR (some (.ref w_MARIADB)) h0 n0 v U'.heap L ∧ FrameEnd U o U' L ({ frames := 0, cells := 0, slots := 0, locals := 0 } : Room).cells ({ frames := 0, cells := 0, slots := 0, locals := 0 } : Room).slots) := by
  refine MetFree.of_bodySF (plainFor_of_name pn_2) hisR ?_
  intro p e s m args below meth c s₁ Bd hml0 hP hK
  obtain ⟨rfl, hZ, hh⟩ := hP
  have hx := Bd.exec
  have hby := Bd.bytes
  have hml : c.maxLocals = 2 := hml0
  have hown : s.vm.findClass "com/example/hydrate/hydrate/mapping/IdGeneratorOnPinLaw" = some m.cls := findClass_of_methodNamed Bd.named
  have hnm := (name_of_methodNamed Bd.named Bd.method).1
  have X0 : Stand p l e ({ frames := 0, cells := 0, slots := 0, locals := 0 } : Room) s m #[(.int p1)] below meth c s₁ [] 0 0 := Stand.of_body Bd
  have e0 : s₁.heap = h0 := by rw [← hh, Bd.state]; rfl
  have N0 := Fr.nil n0
  have pre0 : ∀ t, Steps p.tables e below (s₁.setTop (mkF m 0 #[.val (.int p1), .unset] [])) t → Steps p.tables e below (s₁.setTop (entryFrame m #[(.int p1)] 2)) t := fun t k => castTop (ef_2 m p1) k
  obtain ⟨T2, X2, e2, st2⟩ := getS2 X0 hx hZ hown (host := "") (Or.inl (hw _ (List.mem_of_getElem? (i := 86) rfl))) Via.refl e0 S_MARIADB (g := (mkF m 24 #[.val (.int p1), .val (.int (HMod.hMod (p1 &&& (2147483647 : Int32)) (3 : Int32)))] [])) rfl (hb hby d2_24)
  obtain ⟨fs, hr, hrun, hended, hW, hsame⟩ := X2.leave (v := some (.ref w_MARIADB)) (fun h => by rw [Bd.returns] at h; cases h)
  refine ⟨_, _, pre0 _ ?_, hrun, hended, _, _, rfl, ?_, ⟨_, rfl⟩, hW, hsame.mono (by decide) (by decide)⟩
  · show Steps p.tables e below (s₁.setTop (mkF m 0 #[.val (.int p1), .unset] [])) _
    refine XS.iloadN X0.here hx rfl (hb hby d2_0) rfl ?_
    show Steps p.tables e below (s₁.setTop (mkF m 1 #[.val (.int p1), .unset] [(.int p1)])) _
    refine X0.ldcInt hx hown (mvT hZ (hw _ (List.mem_of_getElem? (i := 10) rfl))) (g := (mkF m 1 #[.val (.int p1), .unset] [(.int p1)])) rfl (hb hby d2_1) _ ?_
    show Steps p.tables e below (s₁.setTop (mkF m 3 #[.val (.int p1), .unset] [(.int (2147483647 : Int32)), (.int p1)])) _
    refine XS.iand X0.here hx rfl (hb hby d2_3) rfl ?_
    show Steps p.tables e below (s₁.setTop (mkF m 4 #[.val (.int p1), .unset] [(.int (p1 &&& (2147483647 : Int32)))])) _
    refine XS.iconst X0.here hx rfl (hb hby d2_4) ?_
    show Steps p.tables e below (s₁.setTop (mkF m 5 #[.val (.int p1), .unset] [(.int (3 : Int32)), (.int (p1 &&& (2147483647 : Int32)))])) _
    refine iremM X0 hx rfl (hb hby d2_5) rfl (by decide) ?_
    show Steps p.tables e below (s₁.setTop (mkF m 6 #[.val (.int p1), .unset] [(.int (HMod.hMod (p1 &&& (2147483647 : Int32)) (3 : Int32)))])) _
    refine XS.istoreN X0.here hx rfl (hb hby d2_6) rfl (l' := #[.val (.int p1), .val (.int (HMod.hMod (p1 &&& (2147483647 : Int32)) (3 : Int32)))]) rfl ?_
    show Steps p.tables e below (s₁.setTop (mkF m 7 #[.val (.int p1), .val (.int (HMod.hMod (p1 &&& (2147483647 : Int32)) (3 : Int32)))] [])) _
    refine XS.iloadN X0.here hx rfl (hb hby d2_7) rfl ?_
    show Steps p.tables e below (s₁.setTop (mkF m 8 #[.val (.int p1), .val (.int (HMod.hMod (p1 &&& (2147483647 : Int32)) (3 : Int32)))] [(.int (HMod.hMod (p1 &&& (2147483647 : Int32)) (3 : Int32)))])) _
    refine XS.ifYes X0.here hx rfl (pc0 := 8) (pc' := 15) rfl (hb hby d2_8) rfl ((if0 _ _).trans (feq hc8).2) (by decide) (by decide) ?_
    show Steps p.tables e below (s₁.setTop (mkF m 15 #[.val (.int p1), .val (.int (HMod.hMod (p1 &&& (2147483647 : Int32)) (3 : Int32)))] [])) _
    refine XS.iloadN X0.here hx rfl (hb hby d2_15) rfl ?_
    show Steps p.tables e below (s₁.setTop (mkF m 16 #[.val (.int p1), .val (.int (HMod.hMod (p1 &&& (2147483647 : Int32)) (3 : Int32)))] [(.int (HMod.hMod (p1 &&& (2147483647 : Int32)) (3 : Int32)))])) _
    refine XS.iconst X0.here hx rfl (hb hby d2_16) ?_
    show Steps p.tables e below (s₁.setTop (mkF m 17 #[.val (.int p1), .val (.int (HMod.hMod (p1 &&& (2147483647 : Int32)) (3 : Int32)))] [(.int (1 : Int32)), (.int (HMod.hMod (p1 &&& (2147483647 : Int32)) (3 : Int32)))])) _
    refine XS.icmpYes X0.here hx rfl (pc0 := 17) (pc' := 24) rfl (hb hby d2_17) rfl (feq hc17).2 (by decide) (by decide) ?_
    show Steps p.tables e below (s₁.setTop (mkF m 24 #[.val (.int p1), .val (.int (HMod.hMod (p1 &&& (2147483647 : Int32)) (3 : Int32)))] [])) _
    refine st2 _ ?_
    show Steps p.tables e below (T2.setTop (mkF m 27 #[.val (.int p1), .val (.int (HMod.hMod (p1 &&& (2147483647 : Int32)) (3 : Int32)))] [(.ref w_MARIADB)])) _
    jvm_step X2.here [X2.here.top, hx, (hb hby d2_27), X2.method', Bd.returns, Value.isRef, FieldType.isReference]
    first | (intro acts; rw [hr _ acts rfl rfl rfl]) | rw [hr _ _ rfl rfl rfl]
    exact Steps.refl _
  · show QR (some (.ref w_MARIADB)) h0 n0 _ T2.heap _
    rw [e2]
    exact ⟨rfl, N0, rfl⟩

theorem rm2 (l : Launch) (Z : State) (a0 : Array Value) (hw : ∀ d ∈ tables_1, d.before a0 Z = true) (ws : List Jvm.Cond) (p1 : Int32) (w_H2 : Addr) (w_POSTGRESQL : Addr) (w_MARIADB : Addr) (r : Addr) (h0 : Heap) (n0 : Nat) (Z0 : n0 ≤ h0.size) (S_H2 : Sta Z h0 "com/example/hydrate/hydrate/dialect/Dialect" "H2" "Lcom/example/hydrate/hydrate/dialect/Dialect;" (.ref w_H2)) (S_POSTGRESQL : Sta Z h0 "com/example/hydrate/hydrate/dialect/Dialect" "POSTGRESQL" "Lcom/example/hydrate/hydrate/dialect/Dialect;" (.ref w_POSTGRESQL)) (S_MARIADB : Sta Z h0 "com/example/hydrate/hydrate/dialect/Dialect" "MARIADB" "Lcom/example/hydrate/hydrate/dialect/Dialect;" (.ref w_MARIADB)) (hr : Dl (HMod.hMod (p1 &&& (2147483647 : Int32)) (3 : Int32)) r w_H2 w_POSTGRESQL w_MARIADB) :
    MetFree l (⟨"com/example/hydrate/hydrate/mapping/IdGeneratorOnPinLaw", "dialectOf", "(I)Lcom/example/hydrate/hydrate/dialect/Dialect;"⟩ : MethodName) (head1 (Jvm.Cond.code (⟨"com/example/hydrate/hydrate/mapping/IdGeneratorOnPinLaw", "dialectOf", "(I)Lcom/example/hydrate/hydrate/dialect/Dialect;"⟩ : MethodName) method_3_code 2 (some (.object "com/example/hydrate/hydrate/dialect/Dialect")) :: ws) ({ frames := 0, cells := 0, slots := 0, locals := 0 } : Room)) (fun a U => a = #[(.int p1)] ∧ Z.Warmed39 U.vm ∧ U.heap = h0) (fun _ _ _ _ _ => True) (fun _ U o U' => ∃ v L, o = .returned v ∧ QR (some (.ref r)) h0 n0 v U'.heap L ∧ FrameEnd U o U' L ({ frames := 0, cells := 0, slots := 0, locals := 0 } : Room).cells ({ frames := 0, cells := 0, slots := 0, locals := 0 } : Room).slots) := by
  rcases hr with ⟨h1, hv⟩ | ⟨h1, h2, hv⟩ | ⟨h1, h2, hv⟩
  · rw [hv]; exact rm2_f l Z a0 hw ws p1 w_H2 w_POSTGRESQL w_MARIADB h0 n0 Z0 S_H2 S_POSTGRESQL S_MARIADB h1
  · rw [hv]; exact rm2_tf l Z a0 hw ws p1 w_H2 w_POSTGRESQL w_MARIADB h0 n0 Z0 S_H2 S_POSTGRESQL S_MARIADB h1 h2
  · rw [hv]; exact rm2_tt l Z a0 hw ws p1 w_H2 w_POSTGRESQL w_MARIADB h0 n0 Z0 S_H2 S_POSTGRESQL S_MARIADB h1 h2

theorem d7_0 : decode prog_57_method_8_code 0 = .ok (.aload_n 0, 1) := by decide +kernel
theorem d7_1 : decode prog_57_method_8_code 1 = .ok (.getfield 7, 3) := by decide +kernel
theorem d7_4 : decode prog_57_method_8_code 4 = .ok (.areturn, 1) := by decide +kernel
theorem pn_7 : plainName "com/example/hydrate/hydrate/mapping/IdGenerator" = true := by first | (simp [plainName, overriddenIn]; done) | decide +kernel
theorem ef_7 (m : MethodId) (x0 : Addr) : entryFrame m #[(.ref x0)] 1 = mkF m 0 #[.val (.ref x0)] [] := by first | (simp [entryFrame, mkF, argsToLocals, Value.category]; done) | rfl
set_option maxRecDepth 65536 in
set_option maxHeartbeats 40000000 in
theorem rm7 (l : Launch) (Z : State) (a0 : Array Value) (hw : ∀ d ∈ tables_1, d.before a0 Z = true) (ws : List Jvm.Cond) (a1 : Addr) (w2 : Addr) (h0 : Heap) (n0 : Nat) (Z0 : n0 ≤ h0.size) (F_kind_a1 : Fld Z h0 a1 "com/example/hydrate/hydrate/mapping/IdGenerator" "kind" "Lcom/example/hydrate/hydrate/mapping/IdGenerator$Kind;" (.ref w2)) :
    MetFree l (⟨"com/example/hydrate/hydrate/mapping/IdGenerator", "kind", "()Lcom/example/hydrate/hydrate/mapping/IdGenerator$Kind;"⟩ : MethodName) (head1 (Jvm.Cond.code (⟨"com/example/hydrate/hydrate/mapping/IdGenerator", "kind", "()Lcom/example/hydrate/hydrate/mapping/IdGenerator$Kind;"⟩ : MethodName) prog_57_method_8_code 1 (some (.object "com/example/hydrate/hydrate/mapping/IdGenerator$Kind")) :: ws) ({ frames := 0, cells := 0, slots := 0, locals := 0 } : Room)) (fun a U => a = #[(.ref a1)] ∧ Z.Warmed39 U.vm ∧ U.heap = h0) (fun _ _ _ _ _ => True) (fun _ U o U' => ∃ v L, o = .returned v ∧ QR (some (.ref w2)) h0 n0 v U'.heap L ∧ FrameEnd U o U' L ({ frames := 0, cells := 0, slots := 0, locals := 0 } : Room).cells ({ frames := 0, cells := 0, slots := 0, locals := 0 } : Room).slots) := by
  refine MetFree.of_bodySF (plainFor_of_name pn_7) hisR ?_
  intro p e s m args below meth c s₁ Bd hml0 hP hK
  obtain ⟨rfl, hZ, hh⟩ := hP
  have hx := Bd.exec
  have hby := Bd.bytes
  have hml : c.maxLocals = 1 := hml0
  have hown : s.vm.findClass "com/example/hydrate/hydrate/mapping/IdGenerator" = some m.cls := findClass_of_methodNamed Bd.named
  have hnm := (name_of_methodNamed Bd.named Bd.method).1
  have X0 : Stand p l e ({ frames := 0, cells := 0, slots := 0, locals := 0 } : Room) s m #[(.ref a1)] below meth c s₁ [] 0 0 := Stand.of_body Bd
  have e0 : s₁.heap = h0 := by rw [← hh, Bd.state]; rfl
  have N0 := Fr.nil n0
  have pre0 : ∀ t, Steps p.tables e below (s₁.setTop (mkF m 0 #[.val (.ref a1)] [])) t → Steps p.tables e below (s₁.setTop (entryFrame m #[(.ref a1)] 1)) t := fun t k => castTop (ef_7 m a1) k
  obtain ⟨T3, X3, e3, st3⟩ := getF X0 hx hZ hown (host := "") (Or.inl (hw _ (List.mem_of_getElem? (i := 28) rfl))) Via.refl e0 F_kind_a1 (g := (mkF m 1 #[.val (.ref a1)] [(.ref a1)])) rfl rfl (hb hby d7_1)
  obtain ⟨fs, hr, hrun, hended, hW, hsame⟩ := X3.leave (v := some (.ref w2)) (fun h => by rw [Bd.returns] at h; cases h)
  refine ⟨_, _, pre0 _ ?_, hrun, hended, _, _, rfl, ?_, ⟨_, rfl⟩, hW, hsame.mono (by decide) (by decide)⟩
  · show Steps p.tables e below (s₁.setTop (mkF m 0 #[.val (.ref a1)] [])) _
    refine XS.aloadN X0.here hx rfl (hb hby d7_0) rfl rfl ?_
    show Steps p.tables e below (s₁.setTop (mkF m 1 #[.val (.ref a1)] [(.ref a1)])) _
    refine st3 _ ?_
    show Steps p.tables e below (T3.setTop (mkF m 4 #[.val (.ref a1)] [(.ref w2)])) _
    jvm_step X3.here [X3.here.top, hx, (hb hby d7_4), X3.method', Bd.returns, Value.isRef, FieldType.isReference]
    first | (intro acts; rw [hr _ acts rfl rfl rfl]) | rw [hr _ _ rfl rfl rfl]
    exact Steps.refl _
  · show QR (some (.ref w2)) h0 n0 _ T3.heap _
    rw [e3]
    exact ⟨rfl, N0, rfl⟩

theorem d8_0 : decode prog_13_method_7_code 0 = .ok (.aload_n 0, 1) := by decide +kernel
theorem d8_1 : decode prog_13_method_7_code 1 = .ok (.getfield 39, 3) := by decide +kernel
theorem d8_4 : decode prog_13_method_7_code 4 = .ok (.ireturn, 1) := by decide +kernel
theorem pn_8 : plainName "com/example/hydrate/hydrate/dialect/Dialect" = true := by first | (simp [plainName, overriddenIn]; done) | decide +kernel
theorem ef_8 (m : MethodId) (x0 : Addr) : entryFrame m #[(.ref x0)] 1 = mkF m 0 #[.val (.ref x0)] [] := by first | (simp [entryFrame, mkF, argsToLocals, Value.category]; done) | rfl
set_option maxRecDepth 65536 in
set_option maxHeartbeats 40000000 in
theorem rm8_1 (l : Launch) (Z : State) (a0 : Array Value) (hw : ∀ d ∈ tables_1, d.before a0 Z = true) (ws : List Jvm.Cond) (a1 : Addr) (h0 : Heap) (n0 : Nat) (Z0 : n0 ≤ h0.size) (F_nativeSequences_a1 : Fld Z h0 a1 "com/example/hydrate/hydrate/dialect/Dialect" "nativeSequences" "Z" (.int (1 : Int32))) :
    MetFree l (⟨"com/example/hydrate/hydrate/dialect/Dialect", "nativeSequences", "()Z"⟩ : MethodName) (head1 (Jvm.Cond.code (⟨"com/example/hydrate/hydrate/dialect/Dialect", "nativeSequences", "()Z"⟩ : MethodName) prog_13_method_7_code 1 (some .boolean) :: ws) ({ frames := 0, cells := 0, slots := 0, locals := 0 } : Room)) (fun a U => a = #[(.ref a1)] ∧ Z.Warmed39 U.vm ∧ U.heap = h0) (fun _ _ _ _ _ => True) (fun _ U o U' => ∃ v L, o = .returned v ∧ QR (some (.int (1 : Int32))) h0 n0 v U'.heap L ∧ FrameEnd U o U' L ({ frames := 0, cells := 0, slots := 0, locals := 0 } : Room).cells ({ frames := 0, cells := 0, slots := 0, locals := 0 } : Room).slots) := by
  refine MetFree.of_bodySF (plainFor_of_name pn_8) hisR ?_
  intro p e s m args below meth c s₁ Bd hml0 hP hK
  obtain ⟨rfl, hZ, hh⟩ := hP
  have hx := Bd.exec
  have hby := Bd.bytes
  have hml : c.maxLocals = 1 := hml0
  have hown : s.vm.findClass "com/example/hydrate/hydrate/dialect/Dialect" = some m.cls := findClass_of_methodNamed Bd.named
  have hnm := (name_of_methodNamed Bd.named Bd.method).1
  have X0 : Stand p l e ({ frames := 0, cells := 0, slots := 0, locals := 0 } : Room) s m #[(.ref a1)] below meth c s₁ [] 0 0 := Stand.of_body Bd
  have e0 : s₁.heap = h0 := by rw [← hh, Bd.state]; rfl
  have N0 := Fr.nil n0
  have pre0 : ∀ t, Steps p.tables e below (s₁.setTop (mkF m 0 #[.val (.ref a1)] [])) t → Steps p.tables e below (s₁.setTop (entryFrame m #[(.ref a1)] 1)) t := fun t k => castTop (ef_8 m a1) k
  obtain ⟨T3, X3, e3, st3⟩ := getF X0 hx hZ hown (host := "") (Or.inl (hw _ (List.mem_of_getElem? (i := 54) rfl))) Via.refl e0 F_nativeSequences_a1 (g := (mkF m 1 #[.val (.ref a1)] [(.ref a1)])) rfl rfl (hb hby d8_1)
  obtain ⟨fs, hr, hrun, hended, hW, hsame⟩ := X3.leave (v := some (.int (1 : Int32))) (fun h => by rw [Bd.returns] at h; cases h)
  refine ⟨_, _, pre0 _ ?_, hrun, hended, _, _, rfl, ?_, ⟨_, rfl⟩, hW, hsame.mono (by decide) (by decide)⟩
  · show Steps p.tables e below (s₁.setTop (mkF m 0 #[.val (.ref a1)] [])) _
    refine XS.aloadN X0.here hx rfl (hb hby d8_0) rfl rfl ?_
    show Steps p.tables e below (s₁.setTop (mkF m 1 #[.val (.ref a1)] [(.ref a1)])) _
    refine st3 _ ?_
    show Steps p.tables e below (T3.setTop (mkF m 4 #[.val (.ref a1)] [(.int (1 : Int32))])) _
    exact retN X3 hx (t := .boolean) Bd.returns (by simp) (hb hby d8_4) hr
  · show QR (some (.int (1 : Int32))) h0 n0 _ T3.heap _
    rw [e3]
    exact ⟨rfl, N0, rfl⟩

set_option maxRecDepth 65536 in
set_option maxHeartbeats 40000000 in
theorem rm8_0 (l : Launch) (Z : State) (a0 : Array Value) (hw : ∀ d ∈ tables_1, d.before a0 Z = true) (ws : List Jvm.Cond) (a1 : Addr) (h0 : Heap) (n0 : Nat) (Z0 : n0 ≤ h0.size) (F_nativeSequences_a1 : Fld Z h0 a1 "com/example/hydrate/hydrate/dialect/Dialect" "nativeSequences" "Z" (.int (0 : Int32))) :
    MetFree l (⟨"com/example/hydrate/hydrate/dialect/Dialect", "nativeSequences", "()Z"⟩ : MethodName) (head1 (Jvm.Cond.code (⟨"com/example/hydrate/hydrate/dialect/Dialect", "nativeSequences", "()Z"⟩ : MethodName) prog_13_method_7_code 1 (some .boolean) :: ws) ({ frames := 0, cells := 0, slots := 0, locals := 0 } : Room)) (fun a U => a = #[(.ref a1)] ∧ Z.Warmed39 U.vm ∧ U.heap = h0) (fun _ _ _ _ _ => True) (fun _ U o U' => ∃ v L, o = .returned v ∧ QR (some (.int (0 : Int32))) h0 n0 v U'.heap L ∧ FrameEnd U o U' L ({ frames := 0, cells := 0, slots := 0, locals := 0 } : Room).cells ({ frames := 0, cells := 0, slots := 0, locals := 0 } : Room).slots) := by
  refine MetFree.of_bodySF (plainFor_of_name pn_8) hisR ?_
  intro p e s m args below meth c s₁ Bd hml0 hP hK
  obtain ⟨rfl, hZ, hh⟩ := hP
  have hx := Bd.exec
  have hby := Bd.bytes
  have hml : c.maxLocals = 1 := hml0
  have hown : s.vm.findClass "com/example/hydrate/hydrate/dialect/Dialect" = some m.cls := findClass_of_methodNamed Bd.named
  have hnm := (name_of_methodNamed Bd.named Bd.method).1
  have X0 : Stand p l e ({ frames := 0, cells := 0, slots := 0, locals := 0 } : Room) s m #[(.ref a1)] below meth c s₁ [] 0 0 := Stand.of_body Bd
  have e0 : s₁.heap = h0 := by rw [← hh, Bd.state]; rfl
  have N0 := Fr.nil n0
  have pre0 : ∀ t, Steps p.tables e below (s₁.setTop (mkF m 0 #[.val (.ref a1)] [])) t → Steps p.tables e below (s₁.setTop (entryFrame m #[(.ref a1)] 1)) t := fun t k => castTop (ef_8 m a1) k
  obtain ⟨T3, X3, e3, st3⟩ := getF X0 hx hZ hown (host := "") (Or.inl (hw _ (List.mem_of_getElem? (i := 54) rfl))) Via.refl e0 F_nativeSequences_a1 (g := (mkF m 1 #[.val (.ref a1)] [(.ref a1)])) rfl rfl (hb hby d8_1)
  obtain ⟨fs, hr, hrun, hended, hW, hsame⟩ := X3.leave (v := some (.int (0 : Int32))) (fun h => by rw [Bd.returns] at h; cases h)
  refine ⟨_, _, pre0 _ ?_, hrun, hended, _, _, rfl, ?_, ⟨_, rfl⟩, hW, hsame.mono (by decide) (by decide)⟩
  · show Steps p.tables e below (s₁.setTop (mkF m 0 #[.val (.ref a1)] [])) _
    refine XS.aloadN X0.here hx rfl (hb hby d8_0) rfl rfl ?_
    show Steps p.tables e below (s₁.setTop (mkF m 1 #[.val (.ref a1)] [(.ref a1)])) _
    refine st3 _ ?_
    show Steps p.tables e below (T3.setTop (mkF m 4 #[.val (.ref a1)] [(.int (0 : Int32))])) _
    exact retN X3 hx (t := .boolean) Bd.returns (by simp) (hb hby d8_4) hr
  · show QR (some (.int (0 : Int32))) h0 n0 _ T3.heap _
    rw [e3]
    exact ⟨rfl, N0, rfl⟩

theorem d4_0 : decode jdk_30_method_1_code 0 = .ok (.aload_n 0, 1) := by decide +kernel
theorem d4_1 : decode jdk_30_method_1_code 1 = .ok (.invokespecial 1, 3) := by decide +kernel
theorem d4_4 : decode jdk_30_method_1_code 4 = .ok (.return_, 1) := by decide +kernel
theorem pn_4 : plainName "java/lang/Record" = true := by first | (simp [plainName, overriddenIn]; done) | decide +kernel
theorem ef_4 (m : MethodId) (x0 : Addr) : entryFrame m #[(.ref x0)] 1 = mkF m 0 #[.val (.ref x0)] [] := by first | (simp [entryFrame, mkF, argsToLocals, Value.category]; done) | rfl
set_option maxRecDepth 65536 in
set_option maxHeartbeats 40000000 in
theorem rm4 (l : Launch) (Z : State) (a0 : Array Value) (hw : ∀ d ∈ tables_1, d.before a0 Z = true) (ws : List Jvm.Cond) (a1 : Addr) (h0 : Heap) (n0 : Nat) (Z0 : n0 ≤ h0.size) :
    MetFree l (⟨"java/lang/Record", "<init>", "()V"⟩ : MethodName) (head1 (Jvm.Cond.code (⟨"java/lang/Record", "<init>", "()V"⟩ : MethodName) jdk_30_method_1_code 1 none :: ws) ({ frames := 1, cells := 0, slots := 0, locals := 12 } : Room)) (fun a U => a = #[(.ref a1)] ∧ Z.Warmed39 U.vm ∧ U.heap = h0) (fun _ _ _ _ _ => True) (fun _ U o U' => ∃ v L, o = .returned v ∧ QR (none) h0 n0 v U'.heap L ∧ FrameEnd U o U' L ({ frames := 1, cells := 0, slots := 0, locals := 12 } : Room).cells ({ frames := 1, cells := 0, slots := 0, locals := 12 } : Room).slots) := by
  refine MetFree.of_bodySF (plainFor_of_name pn_4) hisR ?_
  intro p e s m args below meth c s₁ Bd hml0 hP hK
  obtain ⟨rfl, hZ, hh⟩ := hP
  have hx := Bd.exec
  have hby := Bd.bytes
  have hml : c.maxLocals = 1 := hml0
  have hown : s.vm.findClass "java/lang/Record" = some m.cls := findClass_of_methodNamed Bd.named
  have hnm := (name_of_methodNamed Bd.named Bd.method).1
  have X0 : Stand p l e ({ frames := 1, cells := 0, slots := 0, locals := 12 } : Room) s m #[(.ref a1)] below meth c s₁ [] 0 0 := Stand.of_body Bd
  have e0 : s₁.heap = h0 := by rw [← hh, Bd.state]; rfl
  have N0 := Fr.nil n0
  have pre0 : ∀ t, Steps p.tables e below (s₁.setTop (mkF m 0 #[.val (.ref a1)] [])) t → Steps p.tables e below (s₁.setTop (entryFrame m #[(.ref a1)] 1)) t := fun t k => castTop (ef_4 m a1) k
  obtain ⟨T2, X2, e2, st2⟩ := initO X0 hx hZ hown (hw _ (List.mem_of_getElem? (i := 25) rfl)) (hw _ (List.mem_of_getElem? (i := 26) rfl)) (hw _ (List.mem_of_getElem? (i := 27) rfl)) e0 (g := (mkF m 1 #[.val (.ref a1)] [(.ref a1)])) rfl (by rw [hml]; rfl) rfl (hb hby d4_1) (by decide) (W := 0) (by show 2 * 0 + _ ≤ _; exact Nat.le_of_eq rfl) (by decide)
  obtain ⟨fs, hr, hrun, hended, hW, hsame⟩ := X2.leave (v := none) (fun _ => rfl)
  refine ⟨_, _, pre0 _ ?_, hrun, hended, _, _, rfl, ?_, ⟨_, rfl⟩, hW, hsame.mono (by decide) (by decide)⟩
  · show Steps p.tables e below (s₁.setTop (mkF m 0 #[.val (.ref a1)] [])) _
    refine XS.aloadN X0.here hx rfl (hb hby d4_0) rfl rfl ?_
    show Steps p.tables e below (s₁.setTop (mkF m 1 #[.val (.ref a1)] [(.ref a1)])) _
    refine st2 _ ?_
    show Steps p.tables e below (T2.setTop (mkF m 4 #[.val (.ref a1)] [])) _
    exact X2.returnOut hx Bd.returns (hb hby d4_4) hr
  · show QR (none) h0 n0 _ T2.heap _
    rw [e2]
    exact ⟨rfl, N0, rfl⟩

theorem d10_0 : decode jdk_43_method_3_code 0 = .ok (.iload_n 0, 1) := by decide +kernel
theorem d10_1 : decode jdk_43_method_3_code 1 = .ok (.sipush 255, 3) := by decide +kernel
theorem d10_4 : decode jdk_43_method_3_code 4 = .ok (.if_icmp .gt 7, 3) := by decide +kernel
theorem d10_7 : decode jdk_43_method_3_code 7 = .ok (.iconst 1, 1) := by decide +kernel
theorem d10_8 : decode jdk_43_method_3_code 8 = .ok (.goto 4, 3) := by decide +kernel
theorem d10_12 : decode jdk_43_method_3_code 12 = .ok (.ireturn, 1) := by decide +kernel
theorem pn_10 : plainName "java/lang/StringLatin1" = true := by first | (simp [plainName, overriddenIn]; done) | decide +kernel
theorem ef_10 (m : MethodId) (x0 : Int32) : entryFrame m #[(.int x0)] 1 = mkF m 0 #[.val (.int x0)] [] := by first | (simp [entryFrame, mkF, argsToLocals, Value.category]; done) | rfl
set_option maxRecDepth 65536 in
set_option maxHeartbeats 40000000 in
theorem rm10 (l : Launch) (Z : State) (a0 : Array Value) (hw : ∀ d ∈ tables_1, d.before a0 Z = true) (ws : List Jvm.Cond) (p1 : Int32) (h0 : Heap) (n0 : Nat) (Z0 : n0 ≤ h0.size) (hc4 : ¬ ((255 : Int32) < p1)) :
    MetFree l (⟨"java/lang/StringLatin1", "canEncode", "(C)Z"⟩ : MethodName) (head1 (Jvm.Cond.code (⟨"java/lang/StringLatin1", "canEncode", "(C)Z"⟩ : MethodName) jdk_43_method_3_code 1 (some .boolean) :: ws) ({ frames := 0, cells := 0, slots := 0, locals := 0 } : Room)) (fun a U => a = #[(.int p1)] ∧ Z.Warmed39 U.vm ∧ U.heap = h0) (fun _ _ _ _ _ => True) (fun _ U o U' => ∃ v L, o = .returned v ∧ QR (some (.int (1 : Int32))) h0 n0 v U'.heap L ∧ FrameEnd U o U' L ({ frames := 0, cells := 0, slots := 0, locals := 0 } : Room).cells ({ frames := 0, cells := 0, slots := 0, locals := 0 } : Room).slots) := by
  refine MetFree.of_bodySF (plainFor_of_name pn_10) hisR ?_
  intro p e s m args below meth c s₁ Bd hml0 hP hK
  obtain ⟨rfl, hZ, hh⟩ := hP
  have hx := Bd.exec
  have hby := Bd.bytes
  have hml : c.maxLocals = 1 := hml0
  have hown : s.vm.findClass "java/lang/StringLatin1" = some m.cls := findClass_of_methodNamed Bd.named
  have hnm := (name_of_methodNamed Bd.named Bd.method).1
  have X0 : Stand p l e ({ frames := 0, cells := 0, slots := 0, locals := 0 } : Room) s m #[(.int p1)] below meth c s₁ [] 0 0 := Stand.of_body Bd
  have e0 : s₁.heap = h0 := by rw [← hh, Bd.state]; rfl
  have N0 := Fr.nil n0
  have pre0 : ∀ t, Steps p.tables e below (s₁.setTop (mkF m 0 #[.val (.int p1)] [])) t → Steps p.tables e below (s₁.setTop (entryFrame m #[(.int p1)] 1)) t := fun t k => castTop (ef_10 m p1) k

  obtain ⟨fs, hr, hrun, hended, hW, hsame⟩ := X0.leave (v := some (.int (1 : Int32))) (fun h => by rw [Bd.returns] at h; cases h)
  refine ⟨_, _, pre0 _ ?_, hrun, hended, _, _, rfl, ?_, ⟨_, rfl⟩, hW, hsame.mono (by decide) (by decide)⟩
  · show Steps p.tables e below (s₁.setTop (mkF m 0 #[.val (.int p1)] [])) _
    refine XS.iloadN X0.here hx rfl (hb hby d10_0) rfl ?_
    show Steps p.tables e below (s₁.setTop (mkF m 1 #[.val (.int p1)] [(.int p1)])) _
    refine XS.sipush X0.here hx rfl (hb hby d10_1) ?_
    show Steps p.tables e below (s₁.setTop (mkF m 4 #[.val (.int p1)] [(.int (255 : Int32)), (.int p1)])) _
    refine XS.icmpNo X0.here hx rfl (hb hby d10_4) rfl (flt hc4).2.2.1 ?_
    show Steps p.tables e below (s₁.setTop (mkF m 7 #[.val (.int p1)] [])) _
    refine XS.iconst X0.here hx rfl (hb hby d10_7) ?_
    show Steps p.tables e below (s₁.setTop (mkF m 8 #[.val (.int p1)] [(.int (1 : Int32))])) _
    refine XS.goto X0.here hx rfl (pc0 := 8) (pc' := 12) rfl (hb hby d10_8) (by decide) (by decide) ?_
    show Steps p.tables e below (s₁.setTop (mkF m 12 #[.val (.int p1)] [(.int (1 : Int32))])) _
    exact retN X0 hx (t := .boolean) Bd.returns (by simp) (hb hby d10_12) hr
  · show QR (some (.int (1 : Int32))) h0 n0 _ s₁.heap _
    rw [e0]
    exact ⟨rfl, N0, rfl⟩

theorem d11_0 : decode jdk_43_method_46_code 0 = .ok (.iconst 1, 1) := by decide +kernel
theorem d11_1 : decode jdk_43_method_46_code 1 = .ok (.newarray .byte, 2) := by decide +kernel
theorem d11_3 : decode jdk_43_method_46_code 3 = .ok (.dup, 1) := by decide +kernel
theorem d11_4 : decode jdk_43_method_46_code 4 = .ok (.iconst 0, 1) := by decide +kernel
theorem d11_5 : decode jdk_43_method_46_code 5 = .ok (.iload_n 0, 1) := by decide +kernel
theorem d11_6 : decode jdk_43_method_46_code 6 = .ok (.i2b, 1) := by decide +kernel
theorem d11_7 : decode jdk_43_method_46_code 7 = .ok (.bastore, 1) := by decide +kernel
theorem d11_8 : decode jdk_43_method_46_code 8 = .ok (.areturn, 1) := by decide +kernel
theorem pn_11 : plainName "java/lang/StringLatin1" = true := by first | (simp [plainName, overriddenIn]; done) | decide +kernel
theorem ef_11 (m : MethodId) (x0 : Int32) : entryFrame m #[(.int x0)] 1 = mkF m 0 #[.val (.int x0)] [] := by first | (simp [entryFrame, mkF, argsToLocals, Value.category]; done) | rfl
set_option maxRecDepth 65536 in
set_option maxHeartbeats 40000000 in
theorem rm11 (l : Launch) (Z : State) (a0 : Array Value) (hw : ∀ d ∈ tables_1, d.before a0 Z = true) (ws : List Jvm.Cond) (p1 : Int32) (h0 : Heap) (n0 : Nat) (Z0 : n0 ≤ h0.size) :
    MetFree l (⟨"java/lang/StringLatin1", "toBytes", "(C)[B"⟩ : MethodName) (head1 (Jvm.Cond.code (⟨"java/lang/StringLatin1", "toBytes", "(C)[B"⟩ : MethodName) jdk_43_method_46_code 1 (some (.array .byte)) :: ws) ({ frames := 0, cells := 1, slots := 1, locals := 0 } : Room)) (fun a U => a = #[(.int p1)] ∧ Z.Warmed39 U.vm ∧ U.heap = h0) (fun _ _ _ _ _ => True) (fun _ U o U' => ∃ v L, o = .returned v ∧ QV h0 n0 v U'.heap L ∧ FrameEnd U o U' L ({ frames := 0, cells := 1, slots := 1, locals := 0 } : Room).cells ({ frames := 0, cells := 1, slots := 1, locals := 0 } : Room).slots) := by
  refine MetFree.of_bodySF (plainFor_of_name pn_11) hisR ?_
  intro p e s m args below meth c s₁ Bd hml0 hP hK
  obtain ⟨rfl, hZ, hh⟩ := hP
  have hx := Bd.exec
  have hby := Bd.bytes
  have hml : c.maxLocals = 1 := hml0
  have hown : s.vm.findClass "java/lang/StringLatin1" = some m.cls := findClass_of_methodNamed Bd.named
  have hnm := (name_of_methodNamed Bd.named Bd.method).1
  have X0 : Stand p l e ({ frames := 0, cells := 1, slots := 1, locals := 0 } : Room) s m #[(.int p1)] below meth c s₁ [] 0 0 := Stand.of_body Bd
  have e0 : s₁.heap = h0 := by rw [← hh, Bd.state]; rfl
  have N0 := Fr.nil n0
  have pre0 : ∀ t, Steps p.tables e below (s₁.setTop (mkF m 0 #[.val (.int p1)] [])) t → Steps p.tables e below (s₁.setTop (entryFrame m #[(.int p1)] 1)) t := fun t k => castTop (ef_11 m p1) k
  obtain ⟨T2, h2, k2, X2, e2, E2, A2, st2⟩ := newP X0 hx hZ (hw _ (List.mem_of_getElem? (i := 76) rfl)) e0 (g := (mkF m 1 #[.val (.int p1)] [(.int (1 : Int32))])) rfl (hb hby d11_1) rfl (by decide) (cap := 1) (by decide) (by decide) (by decide) (by decide)
  obtain ⟨b2, g2⟩ : ∃ z, z = h0.size := ⟨_, rfl⟩      -- the fresh array's address
  rw [← g2] at A2 st2
  have V_b2 : Arv Z h2 b2 k2 .byte (1 : Int32) [(.int (0 : Int32))] (.int (0 : Int32)) := (Arv.new A2 (by decide)).pad (pad_rep [] (.int (0 : Int32)) 1)
  have g_b2 : n0 ≤ b2 := Nat.le_trans Z0 (Nat.le_of_eq g2.symm)
  have sz_b2 : h0.size ≤ b2 := (Nat.le_trans (Keep.refl h0 []).1 (Nat.le_of_eq g2.symm))
  have K2 : Keep h0 h2 [] := (Keep.refl h0 []).ext E2
  obtain ⟨cl_b2_7, Ar_b2, q_b2, S_b2, N_b2, H_b2, G_b2⟩ := V_b2      -- open the array's fact as it stands now (its cell, kind, length, elements)
  have hin7 : ¬ ((0 : Int32) < 0 ∨ cl_b2_7.slots.size ≤ ((0 : Int32)).toNatClampNeg) := inb_of S_b2 ⟨by decide, by decide⟩
  obtain ⟨T3, h3, X3, e3, W3, st3⟩ := stB X2 hx hZ e2 Ar_b2 (j := (0 : Int32)) hin7 (g := (mkF m 7 #[.val (.int p1)] [(.int (p1.toInt8.toInt32)), (.int (0 : Int32)), (.ref b2), (.ref b2)])) rfl rfl (hb hby d11_7)
  have V_b2_3 := Arv.set Ar_b2 q_b2 S_b2 N_b2 H_b2 G_b2 (fits_nar_byte _) W3 0 rfl (Nat.le_of_ble_eq_true rfl)      -- the array as it stands now (the place must lie among its first values: Arv.pad with pad_rep lengthens them)
  have K3 : Keep h0 h3 [] := K2.wr W3 (Or.inr sz_b2)
  have N3 := Fr.snoc X3 N0 g_b2
  obtain ⟨fs, hr, hrun, hended, hW, hsame⟩ := X3.leave (v := some (.ref b2)) (fun h => by rw [Bd.returns] at h; cases h)
  refine ⟨_, _, pre0 _ ?_, hrun, hended, _, _, rfl, ?_, ⟨_, rfl⟩, hW, hsame.mono (by decide) (by decide)⟩
  · show Steps p.tables e below (s₁.setTop (mkF m 0 #[.val (.int p1)] [])) _
    refine XS.iconst X0.here hx rfl (hb hby d11_0) ?_
    show Steps p.tables e below (s₁.setTop (mkF m 1 #[.val (.int p1)] [(.int (1 : Int32))])) _
    refine st2 _ ?_
    show Steps p.tables e below (T2.setTop (mkF m 3 #[.val (.int p1)] [(.ref b2)])) _
    refine XS.dup X2.here hx rfl (hb hby d11_3) rfl rfl ?_
    show Steps p.tables e below (T2.setTop (mkF m 4 #[.val (.int p1)] [(.ref b2), (.ref b2)])) _
    refine XS.iconst X2.here hx rfl (hb hby d11_4) ?_
    show Steps p.tables e below (T2.setTop (mkF m 5 #[.val (.int p1)] [(.int (0 : Int32)), (.ref b2), (.ref b2)])) _
    refine XS.iloadN X2.here hx rfl (hb hby d11_5) rfl ?_
    show Steps p.tables e below (T2.setTop (mkF m 6 #[.val (.int p1)] [(.int p1), (.int (0 : Int32)), (.ref b2), (.ref b2)])) _
    refine XS.i2b X2.here hx rfl (hb hby d11_6) rfl ?_
    show Steps p.tables e below (T2.setTop (mkF m 7 #[.val (.int p1)] [(.int (p1.toInt8.toInt32)), (.int (0 : Int32)), (.ref b2), (.ref b2)])) _
    refine st3 _ ?_
    show Steps p.tables e below (T3.setTop (mkF m 8 #[.val (.int p1)] [(.ref b2)])) _
    jvm_step X3.here [X3.here.top, hx, (hb hby d11_8), X3.method', Bd.returns, Value.isRef, FieldType.isReference]
    first | (intro acts; rw [hr _ acts rfl rfl rfl]) | rw [hr _ _ rfl rfl rfl]
    exact Steps.refl _
  · show QV h0 n0 _ T3.heap _
    rw [e3]
    exact ⟨_, rfl, g_b2, sz_b2, N3, K3⟩

theorem d12_0 : decode jdk_42_method_151_code 0 = .ok (.aload_n 0, 1) := by decide +kernel
theorem d12_1 : decode jdk_42_method_151_code 1 = .ok (.invokespecial 1, 3) := by decide +kernel
theorem d12_4 : decode jdk_42_method_151_code 4 = .ok (.aload_n 0, 1) := by decide +kernel
theorem d12_5 : decode jdk_42_method_151_code 5 = .ok (.aload_n 1, 1) := by decide +kernel
theorem d12_6 : decode jdk_42_method_151_code 6 = .ok (.putfield 9, 3) := by decide +kernel
theorem d12_9 : decode jdk_42_method_151_code 9 = .ok (.aload_n 0, 1) := by decide +kernel
theorem d12_10 : decode jdk_42_method_151_code 10 = .ok (.iload_n 2, 1) := by decide +kernel
theorem d12_11 : decode jdk_42_method_151_code 11 = .ok (.putfield 15, 3) := by decide +kernel
theorem d12_14 : decode jdk_42_method_151_code 14 = .ok (.return_, 1) := by decide +kernel
theorem pn_12 : plainName "java/lang/String" = true := by first | (simp [plainName, overriddenIn]; done) | decide +kernel
theorem ef_12 (m : MethodId) (x0 : Addr) (x1 : Addr) (x2 : Int32) : entryFrame m #[(.ref x0), (.ref x1), (.int x2)] 3 = mkF m 0 #[.val (.ref x0), .val (.ref x1), .val (.int x2)] [] := by first | (simp [entryFrame, mkF, argsToLocals, Value.category]; done) | rfl
def Q_rm12 (Z : State) (a1 : Addr) (a2 : Addr) (p3 : Int32) (u_value_a1 : Value) (u_coder_a1 : Value) (h0 : Heap) (n0 : Nat) (v : Option Value) (h : Heap) (L : List Loc) : Prop := v = none ∧ Fr n0 L ∧ Keep h0 h [a1] ∧ Exa Z h a1 "java/lang/String" ∧ Fld Z h a1 "java/lang/String" "value" "[B" (.ref a2) ∧ Fld Z h a1 "java/lang/String" "coder" "B" (.int (p3).toInt8.toInt32)
set_option maxRecDepth 65536 in
set_option maxHeartbeats 40000000 in
theorem rm12 (l : Launch) (Z : State) (a0 : Array Value) (hw : ∀ d ∈ tables_1, d.before a0 Z = true) (ws : List Jvm.Cond) (a1 : Addr) (a2 : Addr) (p3 : Int32) (u_value_a1 : Value) (u_coder_a1 : Value) (h0 : Heap) (n0 : Nat) (Z0 : n0 ≤ h0.size) (E_a1 : Exa Z h0 a1 "java/lang/String") (F_value_a1 : Fld Z h0 a1 "java/lang/String" "value" "[B" u_value_a1) (g_a1 : n0 ≤ a1) (F_coder_a1 : Fld Z h0 a1 "java/lang/String" "coder" "B" u_coder_a1) :
    MetFree l (⟨"java/lang/String", "<init>", "([BB)V"⟩ : MethodName) (head1 (Jvm.Cond.code (⟨"java/lang/String", "<init>", "([BB)V"⟩ : MethodName) jdk_42_method_151_code 3 none :: ws) ({ frames := 1, cells := 0, slots := 0, locals := 12 } : Room)) (fun a U => a = #[(.ref a1), (.ref a2), (.int p3)] ∧ Z.Warmed39 U.vm ∧ U.heap = h0) (fun _ _ _ _ _ => True) (fun _ U o U' => ∃ v L, o = .returned v ∧ Q_rm12 Z a1 a2 p3 u_value_a1 u_coder_a1 h0 n0 v U'.heap L ∧ FrameEnd U o U' L ({ frames := 1, cells := 0, slots := 0, locals := 12 } : Room).cells ({ frames := 1, cells := 0, slots := 0, locals := 12 } : Room).slots) := by
  refine MetFree.of_bodySF (plainFor_of_name pn_12) hisR ?_
  intro p e s m args below meth c s₁ Bd hml0 hP hK
  obtain ⟨rfl, hZ, hh⟩ := hP
  have hx := Bd.exec
  have hby := Bd.bytes
  have hml : c.maxLocals = 3 := hml0
  have hown : s.vm.findClass "java/lang/String" = some m.cls := findClass_of_methodNamed Bd.named
  have hnm := (name_of_methodNamed Bd.named Bd.method).1
  have X0 : Stand p l e ({ frames := 1, cells := 0, slots := 0, locals := 12 } : Room) s m #[(.ref a1), (.ref a2), (.int p3)] below meth c s₁ [] 0 0 := Stand.of_body Bd
  have e0 : s₁.heap = h0 := by rw [← hh, Bd.state]; rfl
  have N0 := Fr.nil n0
  have pre0 : ∀ t, Steps p.tables e below (s₁.setTop (mkF m 0 #[.val (.ref a1), .val (.ref a2), .val (.int p3)] [])) t → Steps p.tables e below (s₁.setTop (entryFrame m #[(.ref a1), (.ref a2), (.int p3)] 3)) t := fun t k => castTop (ef_12 m a1 a2 p3) k
  obtain ⟨T4, X4, e4, st4⟩ := initO X0 hx hZ hown (hw _ (List.mem_of_getElem? (i := 81) rfl)) (hw _ (List.mem_of_getElem? (i := 26) rfl)) (hw _ (List.mem_of_getElem? (i := 27) rfl)) e0 (g := (mkF m 1 #[.val (.ref a1), .val (.ref a2), .val (.int p3)] [(.ref a1)])) rfl (by rw [hml]; rfl) rfl (hb hby d12_1) (by decide) (W := 0) (by show 2 * 0 + _ ≤ _; exact Nat.le_of_eq rfl) (by decide)
  obtain ⟨T5, h5, X5, e5, W5, st5⟩ := putF X4 hx hZ hown (host := "") (Or.inl (hw _ (List.mem_of_getElem? (i := 82) rfl))) Via.refl e4 F_value_a1 E_a1 (Or.inr ⟨(hw _ (List.mem_of_getElem? (i := 83) rfl)), rfl, hnm⟩) (hw _ (List.mem_of_getElem? (i := 72) rfl)) (ty := (.array .byte)) (by decide) rfl rfl (g := (mkF m 6 #[.val (.ref a1), .val (.ref a2), .val (.int p3)] [(.ref a2), (.ref a1)])) rfl rfl (hb hby d12_6)
  have Fw5 := F_value_a1.same W5      -- the field now holds (.ref a2)
  have K5 : Keep h0 h5 [a1] := (Keep.refl h0 [a1]).wr W5 (Or.inl (List.mem_of_getElem? (i := 0) rfl))
  have N5 := Fr.snoc X5 N0 g_a1
  obtain ⟨T6, h6, X6, e6, W6, st6⟩ := putFN X5 hx hZ hown (hw _ (List.mem_of_getElem? (i := 84) rfl)) Via.refl e5 (F_coder_a1.other W5 (Or.inr (slot_ne (Or.inr (hw _ (List.mem_of_getElem? (i := 85) rfl))) (Or.inr (hw _ (List.mem_of_getElem? (i := 83) rfl))) (by decide) (t := .byte) (t' := (.array .byte)) (by decide) (by decide)))) (E_a1.wr W5) (Or.inr ⟨(hw _ (List.mem_of_getElem? (i := 85) rfl)), rfl, hnm⟩) (hw _ (List.mem_of_getElem? (i := 72) rfl)) (ty := .byte) (v' := (.int (p3).toInt8.toInt32)) (by decide) rfl (fits_nar_byte _) (g := (mkF m 11 #[.val (.ref a1), .val (.ref a2), .val (.int p3)] [(.int p3), (.ref a1)])) rfl rfl (hb hby d12_11)
  have Fw6 := (F_coder_a1.other W5 (Or.inr (slot_ne (Or.inr (hw _ (List.mem_of_getElem? (i := 85) rfl))) (Or.inr (hw _ (List.mem_of_getElem? (i := 83) rfl))) (by decide) (t := .byte) (t' := (.array .byte)) (by decide) (by decide)))).same W6      -- the field now holds (.int p3)
  have K6 : Keep h0 h6 [a1] := K5.wr W6 (Or.inl (List.mem_of_getElem? (i := 0) rfl))
  have N6 := Fr.snoc X6 N5 g_a1
  obtain ⟨fs, hr, hrun, hended, hW, hsame⟩ := X6.leave (v := none) (fun _ => rfl)
  refine ⟨_, _, pre0 _ ?_, hrun, hended, _, _, rfl, ?_, ⟨_, rfl⟩, hW, hsame.mono (by decide) (by decide)⟩
  · show Steps p.tables e below (s₁.setTop (mkF m 0 #[.val (.ref a1), .val (.ref a2), .val (.int p3)] [])) _
    refine XS.aloadN X0.here hx rfl (hb hby d12_0) rfl rfl ?_
    show Steps p.tables e below (s₁.setTop (mkF m 1 #[.val (.ref a1), .val (.ref a2), .val (.int p3)] [(.ref a1)])) _
    refine st4 _ ?_
    show Steps p.tables e below (T4.setTop (mkF m 4 #[.val (.ref a1), .val (.ref a2), .val (.int p3)] [])) _
    refine XS.aloadN X4.here hx rfl (hb hby d12_4) rfl rfl ?_
    show Steps p.tables e below (T4.setTop (mkF m 5 #[.val (.ref a1), .val (.ref a2), .val (.int p3)] [(.ref a1)])) _
    refine XS.aloadN X4.here hx rfl (hb hby d12_5) rfl rfl ?_
    show Steps p.tables e below (T4.setTop (mkF m 6 #[.val (.ref a1), .val (.ref a2), .val (.int p3)] [(.ref a2), (.ref a1)])) _
    refine st5 _ ?_
    show Steps p.tables e below (T5.setTop (mkF m 9 #[.val (.ref a1), .val (.ref a2), .val (.int p3)] [])) _
    refine XS.aloadN X5.here hx rfl (hb hby d12_9) rfl rfl ?_
    show Steps p.tables e below (T5.setTop (mkF m 10 #[.val (.ref a1), .val (.ref a2), .val (.int p3)] [(.ref a1)])) _
    refine XS.iloadN X5.here hx rfl (hb hby d12_10) rfl ?_
    show Steps p.tables e below (T5.setTop (mkF m 11 #[.val (.ref a1), .val (.ref a2), .val (.int p3)] [(.int p3), (.ref a1)])) _
    refine st6 _ ?_
    show Steps p.tables e below (T6.setTop (mkF m 14 #[.val (.ref a1), .val (.ref a2), .val (.int p3)] [])) _
    exact X6.returnOut hx Bd.returns (hb hby d12_14) hr
  · show Q_rm12 Z a1 a2 p3 u_value_a1 u_coder_a1 h0 n0 _ T6.heap _
    rw [e6]
    exact ⟨rfl, N6, K6, ((E_a1.wr W5).wr W6), (Fw5.other W6 (Or.inr (slot_ne (Or.inr (hw _ (List.mem_of_getElem? (i := 83) rfl))) (Or.inr (hw _ (List.mem_of_getElem? (i := 85) rfl))) (by decide) (t := (.array .byte)) (t' := .byte) (by decide) (by decide)))), Fw6⟩

theorem d9_0 : decode jdk_42_method_139_code 0 = .ok (.getstatic 38, 3) := by decide +kernel
theorem d9_3 : decode jdk_42_method_139_code 3 = .ok (.ifCond .eq 23, 3) := by decide +kernel
theorem d9_6 : decode jdk_42_method_139_code 6 = .ok (.iload_n 0, 1) := by decide +kernel
theorem d9_7 : decode jdk_42_method_139_code 7 = .ok (.invokestatic 1015, 3) := by decide +kernel
theorem d9_10 : decode jdk_42_method_139_code 10 = .ok (.ifCond .eq 16, 3) := by decide +kernel
theorem d9_13 : decode jdk_42_method_139_code 13 = .ok (.new 10, 3) := by decide +kernel
theorem d9_16 : decode jdk_42_method_139_code 16 = .ok (.dup, 1) := by decide +kernel
theorem d9_17 : decode jdk_42_method_139_code 17 = .ok (.iload_n 0, 1) := by decide +kernel
theorem d9_18 : decode jdk_42_method_139_code 18 = .ok (.invokestatic 1018, 3) := by decide +kernel
theorem d9_21 : decode jdk_42_method_139_code 21 = .ok (.iconst 0, 1) := by decide +kernel
theorem d9_22 : decode jdk_42_method_139_code 22 = .ok (.invokespecial 209, 3) := by decide +kernel
theorem d9_25 : decode jdk_42_method_139_code 25 = .ok (.areturn, 1) := by decide +kernel
theorem pn_9 : plainName "java/lang/String" = true := by first | (simp [plainName, overriddenIn]; done) | decide +kernel
theorem pd_9_8 : parseMethodDescriptor "(C)Z" = some ⟨[.char], some .boolean⟩ := by decide +kernel
theorem pd_9_9 : parseMethodDescriptor "(C)[B" = some ⟨[.char], some (.array .byte)⟩ := by decide +kernel
theorem pd_9_10 : parseMethodDescriptor "([BB)V" = some ⟨[(.array .byte), .byte], none⟩ := by decide +kernel
theorem ef_9 (m : MethodId) (x0 : Int32) : entryFrame m #[(.int x0)] 1 = mkF m 0 #[.val (.int x0)] [] := by first | (simp [entryFrame, mkF, argsToLocals, Value.category]; done) | rfl
set_option maxRecDepth 65536 in
set_option maxHeartbeats 40000000 in
theorem rm9 (l : Launch) (Z : State) (a0 : Array Value) (hw : ∀ d ∈ tables_1, d.before a0 Z = true) (ws : List Jvm.Cond) (p1 : Int32) (w_COMPACT_STRINGS : Int32) (h0 : Heap) (n0 : Nat) (Z0 : n0 ≤ h0.size) (hlt : ¬ ((255 : Int32) < p1)) (S_COMPACT_STRINGS : Sta Z h0 "java/lang/String" "COMPACT_STRINGS" "Z" (.int w_COMPACT_STRINGS)) (hc3 : ¬ (w_COMPACT_STRINGS = (0 : Int32))) (hc10 : ¬ ((1 : Int32) = (0 : Int32))) :
    MetFree l (⟨"java/lang/String", "valueOf", "(C)Ljava/lang/String;"⟩ : MethodName) (head1 (Jvm.Cond.code (⟨"java/lang/String", "valueOf", "(C)Ljava/lang/String;"⟩ : MethodName) jdk_42_method_139_code 1 (some (.object "java/lang/String")) :: ws) ({ frames := 2, cells := 2, slots := 5, locals := 27 } : Room)) (fun a U => a = #[(.int p1)] ∧ Z.Warmed39 U.vm ∧ U.heap = h0) (fun _ _ _ _ _ => True) (fun _ U o U' => ∃ v L, o = .returned v ∧ QV h0 n0 v U'.heap L ∧ FrameEnd U o U' L ({ frames := 2, cells := 2, slots := 5, locals := 27 } : Room).cells ({ frames := 2, cells := 2, slots := 5, locals := 27 } : Room).slots) := by
  refine MetFree.of_bodySF (plainFor_of_name pn_9) hisR ?_
  intro p e s m args below meth c s₁ Bd hml0 hP hK
  obtain ⟨rfl, hZ, hh⟩ := hP
  have hx := Bd.exec
  have hby := Bd.bytes
  have hml : c.maxLocals = 1 := hml0
  have hown : s.vm.findClass "java/lang/String" = some m.cls := findClass_of_methodNamed Bd.named
  have hnm := (name_of_methodNamed Bd.named Bd.method).1
  have X0 : Stand p l e ({ frames := 2, cells := 2, slots := 5, locals := 27 } : Room) s m #[(.int p1)] below meth c s₁ [] 0 0 := Stand.of_body Bd
  have e0 : s₁.heap = h0 := by rw [← hh, Bd.state]; rfl
  have N0 := Fr.nil n0
  have pre0 : ∀ t, Steps p.tables e below (s₁.setTop (mkF m 0 #[.val (.int p1)] [])) t → Steps p.tables e below (s₁.setTop (entryFrame m #[(.int p1)] 1)) t := fun t k => castTop (ef_9 m p1) k
  obtain ⟨T2, X2, e2, st2⟩ := getS2 X0 hx hZ hown (host := "") (Or.inl (hw _ (List.mem_of_getElem? (i := 66) rfl))) Via.refl e0 S_COMPACT_STRINGS (g := (mkF m 0 #[.val (.int p1)] [])) rfl (hb hby d9_0)
  obtain ⟨_, _, ⟨T3, L3, k3, n3⟩, -, X3, ⟨Lc3, hQ3, l3, y3, z3⟩, st3⟩ := Jvm.LawKit.callS X2 hx (y := (⟨"java/lang/StringLatin1", "canEncode", "(C)Z"⟩ : MethodName)) hown (mvT hZ (hw _ (List.mem_of_getElem? (i := 67) rfl))) (mvT hZ (hw _ (List.mem_of_getElem? (i := 68) rfl))) (mvT hZ (hw _ (List.mem_of_getElem? (i := 69) rfl))) (mvT hZ (hw _ (List.mem_of_getElem? (i := 70) rfl))) (by decide) (backOf (W := 0) (rm10 l Z a0 hw [] p1 h0 n0 Z0 hlt) hZ (hw _ (List.mem_of_getElem? (i := 70) rfl)) (hw _ (List.mem_of_getElem? (i := 69) rfl)) (by decide) (by decide)) (g := (mkF m 7 #[.val (.int p1)] [(.int p1)])) rfl (by rw [hml]; rfl) (argsL := [(.int p1)]) (rest := []) (lenOf pd_9_8 rfl) rfl (by show 2 * 0 + _ ≤ _; exact Nat.le_of_eq rfl) (hb hby d9_7) (fun _ _ => ⟨rfl, e2, (by decide : 0 + 0 ≤ _), (by decide : 0 + 0 ≤ _)⟩)
  dsimp only [Pt.U, Pt.locs, Pt.cells, Pt.slots] at X3 l3 y3 z3 st3 hQ3
  subst l3 y3 z3
  obtain ⟨rfl, N3q, eq3⟩ := hQ3
  have N3 := Fr.app N0 N3q
  obtain ⟨T4, h4, X4, e4, E4, A4, D4, -, st4⟩ := newO X3 hx hZ hown (hw _ (List.mem_of_getElem? (i := 71) rfl)) (hw _ (List.mem_of_getElem? (i := 72) rfl)) (hw _ (List.mem_of_getElem? (i := 64) rfl)) eq3 (g := (mkF m 13 #[.val (.int p1)] [])) rfl (hb hby d9_13) (by decide) (by decide)
  obtain ⟨b4, g4⟩ : ∃ z, z = h0.size := ⟨_, rfl⟩      -- the fresh object's address
  rw [← g4] at A4 D4 st4      -- A4 : Exa Z h4 b4 "java/lang/String"; E4 : Ext h0 h4 (carries every older fact: .ext E4)
  have F_value_b4 : Fld Z h4 b4 "java/lang/String" "value" "[B" .null := D4 (Or.inr (hw _ (List.mem_of_getElem? (i := 83) rfl))) (ty := (.array .byte)) (by decide)
  have F_coder_b4 : Fld Z h4 b4 "java/lang/String" "coder" "B" (.int (0 : Int32)) := D4 (Or.inr (hw _ (List.mem_of_getElem? (i := 85) rfl))) (ty := .byte) (by decide)
  have E_b4 := A4
  have g_b4 : n0 ≤ b4 := Nat.le_trans Z0 (Nat.le_of_eq g4.symm)
  have sz_b4 : h0.size ≤ b4 := (Nat.le_trans (Keep.refl h0 []).1 (Nat.le_of_eq g4.symm))
  have K4 : Keep h0 h4 [] := (Keep.refl h0 []).ext E4
  obtain ⟨_, _, ⟨T5, L5, k5, n5⟩, -, X5, ⟨Lc5, hQ5, l5, y5, z5⟩, st5⟩ := Jvm.LawKit.callS X4 hx (y := (⟨"java/lang/StringLatin1", "toBytes", "(C)[B"⟩ : MethodName)) hown (mvT hZ (hw _ (List.mem_of_getElem? (i := 73) rfl))) (mvT hZ (hw _ (List.mem_of_getElem? (i := 74) rfl))) (mvT hZ (hw _ (List.mem_of_getElem? (i := 69) rfl))) (mvT hZ (hw _ (List.mem_of_getElem? (i := 75) rfl))) (by decide) (backOf (W := 2) (rm11 l Z a0 hw [] p1 h4 n0 (Nat.le_trans Z0 E4.1)) hZ (hw _ (List.mem_of_getElem? (i := 75) rfl)) (hw _ (List.mem_of_getElem? (i := 69) rfl)) (by decide) (by decide)) (g := (mkF m 18 #[.val (.int p1)] [(.int p1), (.ref b4), (.ref b4)])) rfl (by rw [hml]; rfl) (argsL := [(.int p1)]) (rest := [(.ref b4), (.ref b4)]) (lenOf pd_9_9 rfl) rfl (by show 2 * 0 + _ ≤ _; exact Nat.le_of_eq rfl) (hb hby d9_18) (fun _ _ => ⟨rfl, e4, (by decide : 1 + 1 ≤ _), (by decide : 4 + 1 ≤ _)⟩)
  dsimp only [Pt.U, Pt.locs, Pt.cells, Pt.slots] at X5 l5 y5 z5 st5 hQ5
  subst l5 y5 z5
  obtain ⟨r5, rfl, gr5, sr5, N5q, Kc5⟩ := hQ5
  have N5 := Fr.app N3 N5q
  have K5 : Keep h0 T5.heap [] := K4.trans Kc5 all0
  obtain ⟨_, _, ⟨T6, L6, k6, n6⟩, -, X6, ⟨Lc6, hQ6, l6, y6, z6⟩, st6⟩ := X5.specialBack hx (y := (⟨"java/lang/String", "<init>", "([BB)V"⟩ : MethodName)) rfl hown (mvT hZ (hw _ (List.mem_of_getElem? (i := 77) rfl))) (mvT hZ (hw _ (List.mem_of_getElem? (i := 78) rfl))) (mvT hZ (hw _ (List.mem_of_getElem? (i := 80) rfl))) (by decide) (backOf (W := 1) (rm12 l Z a0 hw [] b4 r5 ((0 : Int32)) .null ((.int (0 : Int32))) T5.heap n0 (Nat.le_trans (Nat.le_trans Z0 E4.1) Kc5.1) (E_b4.keep Kc5) (F_value_b4.keep Kc5 nin0) g_b4 (F_coder_b4.keep Kc5 nin0)) hZ (hw _ (List.mem_of_getElem? (i := 80) rfl)) (hw _ (List.mem_of_getElem? (i := 64) rfl)) (by decide) (by decide)) (g := (mkF m 22 #[.val (.int p1)] [(.int (0 : Int32)), (.ref r5), (.ref b4), (.ref b4)])) rfl (by rw [hml]; rfl) (Steps.refl _) (a := b4) (argsL := [(.ref r5), (.int (0 : Int32))]) (rest := [(.ref b4)]) (lenOf pd_9_10 rfl) rfl (by show 2 * 0 + _ ≤ _; exact Nat.le_of_eq rfl) (hb hby d9_22) (fun _ _ => ⟨rfl, rfl, (by decide : 2 + 0 ≤ _), (by decide : 5 + 0 ≤ _)⟩)
  dsimp only [Pt.U, Pt.locs, Pt.cells, Pt.slots] at X6 l6 y6 z6 st6 hQ6
  subst l6 y6 z6
  obtain ⟨rfl, N6q, Kc6, -⟩ := hQ6
  have N6 := Fr.app N5 N6q
  have K6 : Keep h0 T6.heap [] := K5.trans Kc6 (allS (Or.inr sz_b4) (all0))
  obtain ⟨fs, hr, hrun, hended, hW, hsame⟩ := X6.leave (v := some (.ref b4)) (fun h => by rw [Bd.returns] at h; cases h)
  refine ⟨_, _, pre0 _ ?_, hrun, hended, _, _, rfl, ?_, ⟨_, rfl⟩, hW, hsame.mono (by decide) (by decide)⟩
  · show Steps p.tables e below (s₁.setTop (mkF m 0 #[.val (.int p1)] [])) _
    refine st2 _ ?_
    show Steps p.tables e below (T2.setTop (mkF m 3 #[.val (.int p1)] [(.int w_COMPACT_STRINGS)])) _
    refine XS.ifNo X2.here hx rfl (hb hby d9_3) rfl ((if0 _ _).trans (feq hc3).1) ?_
    show Steps p.tables e below (T2.setTop (mkF m 6 #[.val (.int p1)] [])) _
    refine XS.iloadN X2.here hx rfl (hb hby d9_6) rfl ?_
    show Steps p.tables e below (T2.setTop (mkF m 7 #[.val (.int p1)] [(.int p1)])) _
    refine st3 _ ?_
    show Steps p.tables e below (T3.setTop (mkF m 10 #[.val (.int p1)] [(.int (1 : Int32))])) _
    refine XS.ifNo X3.here hx rfl (hb hby d9_10) rfl ((if0 _ _).trans (feq hc10).1) ?_
    show Steps p.tables e below (T3.setTop (mkF m 13 #[.val (.int p1)] [])) _
    refine st4 _ ?_
    show Steps p.tables e below (T4.setTop (mkF m 16 #[.val (.int p1)] [(.ref b4)])) _
    refine XS.dup X4.here hx rfl (hb hby d9_16) rfl rfl ?_
    show Steps p.tables e below (T4.setTop (mkF m 17 #[.val (.int p1)] [(.ref b4), (.ref b4)])) _
    refine XS.iloadN X4.here hx rfl (hb hby d9_17) rfl ?_
    show Steps p.tables e below (T4.setTop (mkF m 18 #[.val (.int p1)] [(.int p1), (.ref b4), (.ref b4)])) _
    refine st5 _ ?_
    show Steps p.tables e below (T5.setTop (mkF m 21 #[.val (.int p1)] [(.ref r5), (.ref b4), (.ref b4)])) _
    refine XS.iconst X5.here hx rfl (hb hby d9_21) ?_
    show Steps p.tables e below (T5.setTop (mkF m 22 #[.val (.int p1)] [(.int (0 : Int32)), (.ref r5), (.ref b4), (.ref b4)])) _
    refine st6.trans ?_
    show Steps p.tables e below (T6.setTop (mkF m 25 #[.val (.int p1)] [(.ref b4)])) _
    jvm_step X6.here [X6.here.top, hx, (hb hby d9_25), X6.method', Bd.returns, Value.isRef, FieldType.isReference]
    first | (intro acts; rw [hr _ acts rfl rfl rfl]) | rw [hr _ _ rfl rfl rfl]
    exact Steps.refl _
  · show QV h0 n0 _ T6.heap _
    exact ⟨_, rfl, g_b4, sz_b4, N6, K6⟩

theorem d3_0 : decode prog_57_method_1_code 0 = .ok (.aload_n 0, 1) := by decide +kernel
theorem d3_1 : decode prog_57_method_1_code 1 = .ok (.invokespecial 1, 3) := by decide +kernel
theorem d3_4 : decode prog_57_method_1_code 4 = .ok (.aload_n 0, 1) := by decide +kernel
theorem d3_5 : decode prog_57_method_1_code 5 = .ok (.aload_n 1, 1) := by decide +kernel
theorem d3_6 : decode prog_57_method_1_code 6 = .ok (.putfield 7, 3) := by decide +kernel
theorem d3_9 : decode prog_57_method_1_code 9 = .ok (.aload_n 0, 1) := by decide +kernel
theorem d3_10 : decode prog_57_method_1_code 10 = .ok (.aload_n 2, 1) := by decide +kernel
theorem d3_11 : decode prog_57_method_1_code 11 = .ok (.putfield 13, 3) := by decide +kernel
theorem d3_14 : decode prog_57_method_1_code 14 = .ok (.aload_n 0, 1) := by decide +kernel
theorem d3_15 : decode prog_57_method_1_code 15 = .ok (.iload_n 3, 1) := by decide +kernel
theorem d3_16 : decode prog_57_method_1_code 16 = .ok (.putfield 17, 3) := by decide +kernel
theorem d3_19 : decode prog_57_method_1_code 19 = .ok (.return_, 1) := by decide +kernel
theorem pn_3 : plainName "com/example/hydrate/hydrate/mapping/IdGenerator" = true := by first | (simp [plainName, overriddenIn]; done) | decide +kernel
theorem pd_3_3 : parseMethodDescriptor "()V" = some ⟨[], none⟩ := by decide +kernel
theorem ef_3 (m : MethodId) (x0 : Addr) (x1 : Addr) (x2 : Addr) (x3 : Int32) : entryFrame m #[(.ref x0), (.ref x1), (.ref x2), (.int x3)] 4 = mkF m 0 #[.val (.ref x0), .val (.ref x1), .val (.ref x2), .val (.int x3)] [] := by first | (simp [entryFrame, mkF, argsToLocals, Value.category]; done) | rfl
def Q_rm3 (Z : State) (a1 : Addr) (a2 : Addr) (a3 : Addr) (p4 : Int32) (u_kind_a1 : Value) (u_sequence_a1 : Value) (u_increment_a1 : Value) (h0 : Heap) (n0 : Nat) (v : Option Value) (h : Heap) (L : List Loc) : Prop := v = none ∧ Fr n0 L ∧ Keep h0 h [a1] ∧ Exa Z h a1 "com/example/hydrate/hydrate/mapping/IdGenerator" ∧ Fld Z h a1 "com/example/hydrate/hydrate/mapping/IdGenerator" "kind" "Lcom/example/hydrate/hydrate/mapping/IdGenerator$Kind;" (.ref a2) ∧ Fld Z h a1 "com/example/hydrate/hydrate/mapping/IdGenerator" "sequence" "Ljava/lang/String;" (.ref a3) ∧ Fld Z h a1 "com/example/hydrate/hydrate/mapping/IdGenerator" "increment" "I" (.int p4)
set_option maxRecDepth 65536 in
set_option maxHeartbeats 40000000 in
theorem rm3 (l : Launch) (Z : State) (a0 : Array Value) (hw : ∀ d ∈ tables_1, d.before a0 Z = true) (ws : List Jvm.Cond) (a1 : Addr) (a2 : Addr) (a3 : Addr) (p4 : Int32) (u_kind_a1 : Value) (u_sequence_a1 : Value) (u_increment_a1 : Value) (h0 : Heap) (n0 : Nat) (Z0 : n0 ≤ h0.size) (E_a1 : Exa Z h0 a1 "com/example/hydrate/hydrate/mapping/IdGenerator") (F_kind_a1 : Fld Z h0 a1 "com/example/hydrate/hydrate/mapping/IdGenerator" "kind" "Lcom/example/hydrate/hydrate/mapping/IdGenerator$Kind;" u_kind_a1) (g_a1 : n0 ≤ a1) (F_sequence_a1 : Fld Z h0 a1 "com/example/hydrate/hydrate/mapping/IdGenerator" "sequence" "Ljava/lang/String;" u_sequence_a1) (F_increment_a1 : Fld Z h0 a1 "com/example/hydrate/hydrate/mapping/IdGenerator" "increment" "I" u_increment_a1) :
    MetFree l (⟨"com/example/hydrate/hydrate/mapping/IdGenerator", "<init>", "(Lcom/example/hydrate/hydrate/mapping/IdGenerator$Kind;Ljava/lang/String;I)V"⟩ : MethodName) (head1 (Jvm.Cond.code (⟨"com/example/hydrate/hydrate/mapping/IdGenerator", "<init>", "(Lcom/example/hydrate/hydrate/mapping/IdGenerator$Kind;Ljava/lang/String;I)V"⟩ : MethodName) prog_57_method_1_code 4 none :: ws) ({ frames := 2, cells := 0, slots := 0, locals := 24 } : Room)) (fun a U => a = #[(.ref a1), (.ref a2), (.ref a3), (.int p4)] ∧ Z.Warmed39 U.vm ∧ U.heap = h0) (fun _ _ _ _ _ => True) (fun _ U o U' => ∃ v L, o = .returned v ∧ Q_rm3 Z a1 a2 a3 p4 u_kind_a1 u_sequence_a1 u_increment_a1 h0 n0 v U'.heap L ∧ FrameEnd U o U' L ({ frames := 2, cells := 0, slots := 0, locals := 24 } : Room).cells ({ frames := 2, cells := 0, slots := 0, locals := 24 } : Room).slots) := by
  refine MetFree.of_bodySF (plainFor_of_name pn_3) hisR ?_
  intro p e s m args below meth c s₁ Bd hml0 hP hK
  obtain ⟨rfl, hZ, hh⟩ := hP
  have hx := Bd.exec
  have hby := Bd.bytes
  have hml : c.maxLocals = 4 := hml0
  have hown : s.vm.findClass "com/example/hydrate/hydrate/mapping/IdGenerator" = some m.cls := findClass_of_methodNamed Bd.named
  have hnm := (name_of_methodNamed Bd.named Bd.method).1
  have X0 : Stand p l e ({ frames := 2, cells := 0, slots := 0, locals := 24 } : Room) s m #[(.ref a1), (.ref a2), (.ref a3), (.int p4)] below meth c s₁ [] 0 0 := Stand.of_body Bd
  have e0 : s₁.heap = h0 := by rw [← hh, Bd.state]; rfl
  have N0 := Fr.nil n0
  have pre0 : ∀ t, Steps p.tables e below (s₁.setTop (mkF m 0 #[.val (.ref a1), .val (.ref a2), .val (.ref a3), .val (.int p4)] [])) t → Steps p.tables e below (s₁.setTop (entryFrame m #[(.ref a1), (.ref a2), (.ref a3), (.int p4)] 4)) t := fun t k => castTop (ef_3 m a1 a2 a3 p4) k
  obtain ⟨_, _, ⟨T5, L5, k5, n5⟩, -, X5, ⟨Lc5, hQ5, l5, y5, z5⟩, st5⟩ := X0.specialBack hx (y := (⟨"java/lang/Record", "<init>", "()V"⟩ : MethodName)) rfl hown (mvT hZ (hw _ (List.mem_of_getElem? (i := 20) rfl))) (mvT hZ (hw _ (List.mem_of_getElem? (i := 21) rfl))) (mvT hZ (hw _ (List.mem_of_getElem? (i := 24) rfl))) (by decide) (backOf (W := 0) (rm4 l Z a0 hw [] a1 h0 n0 Z0) hZ (hw _ (List.mem_of_getElem? (i := 24) rfl)) (hw _ (List.mem_of_getElem? (i := 23) rfl)) (by decide) (by decide)) (g := (mkF m 1 #[.val (.ref a1), .val (.ref a2), .val (.ref a3), .val (.int p4)] [(.ref a1)])) rfl (by rw [hml]; rfl) (Steps.refl _) (a := a1) (argsL := []) (rest := []) (lenOf pd_3_3 rfl) rfl (by show 2 * 0 + _ ≤ _; exact Nat.le_of_eq rfl) (hb hby d3_1) (fun _ _ => ⟨rfl, e0, (by decide : 0 + 0 ≤ _), (by decide : 0 + 0 ≤ _)⟩)
  dsimp only [Pt.U, Pt.locs, Pt.cells, Pt.slots] at X5 l5 y5 z5 st5 hQ5
  subst l5 y5 z5
  obtain ⟨rfl, N5q, eq5⟩ := hQ5
  have N5 := Fr.app N0 N5q
  obtain ⟨T6, h6, X6, e6, W6, st6⟩ := putF X5 hx hZ hown (host := "") (Or.inl (hw _ (List.mem_of_getElem? (i := 28) rfl))) Via.refl eq5 F_kind_a1 E_a1 (Or.inr ⟨(hw _ (List.mem_of_getElem? (i := 29) rfl)), rfl, hnm⟩) (hw _ (List.mem_of_getElem? (i := 15) rfl)) (ty := (.object "com/example/hydrate/hydrate/mapping/IdGenerator$Kind")) (by decide) rfl rfl (g := (mkF m 6 #[.val (.ref a1), .val (.ref a2), .val (.ref a3), .val (.int p4)] [(.ref a2), (.ref a1)])) rfl rfl (hb hby d3_6)
  have Fw6 := F_kind_a1.same W6      -- the field now holds (.ref a2)
  have K6 : Keep h0 h6 [a1] := (Keep.refl h0 [a1]).wr W6 (Or.inl (List.mem_of_getElem? (i := 0) rfl))
  have N6 := Fr.snoc X6 N5 g_a1
  obtain ⟨T7, h7, X7, e7, W7, st7⟩ := putF X6 hx hZ hown (host := "") (Or.inl (hw _ (List.mem_of_getElem? (i := 30) rfl))) Via.refl e6 (F_sequence_a1.other W6 (Or.inr (slot_ne (Or.inr (hw _ (List.mem_of_getElem? (i := 31) rfl))) (Or.inr (hw _ (List.mem_of_getElem? (i := 29) rfl))) (by decide) (t := (.object "java/lang/String")) (t' := (.object "com/example/hydrate/hydrate/mapping/IdGenerator$Kind")) (by decide) (by decide)))) (E_a1.wr W6) (Or.inr ⟨(hw _ (List.mem_of_getElem? (i := 31) rfl)), rfl, hnm⟩) (hw _ (List.mem_of_getElem? (i := 15) rfl)) (ty := (.object "java/lang/String")) (by decide) rfl rfl (g := (mkF m 11 #[.val (.ref a1), .val (.ref a2), .val (.ref a3), .val (.int p4)] [(.ref a3), (.ref a1)])) rfl rfl (hb hby d3_11)
  have Fw7 := (F_sequence_a1.other W6 (Or.inr (slot_ne (Or.inr (hw _ (List.mem_of_getElem? (i := 31) rfl))) (Or.inr (hw _ (List.mem_of_getElem? (i := 29) rfl))) (by decide) (t := (.object "java/lang/String")) (t' := (.object "com/example/hydrate/hydrate/mapping/IdGenerator$Kind")) (by decide) (by decide)))).same W7      -- the field now holds (.ref a3)
  have K7 : Keep h0 h7 [a1] := K6.wr W7 (Or.inl (List.mem_of_getElem? (i := 0) rfl))
  have N7 := Fr.snoc X7 N6 g_a1
  obtain ⟨T8, h8, X8, e8, W8, st8⟩ := putF X7 hx hZ hown (host := "") (Or.inl (hw _ (List.mem_of_getElem? (i := 32) rfl))) Via.refl e7 ((F_increment_a1.other W6 (Or.inr (slot_ne (Or.inr (hw _ (List.mem_of_getElem? (i := 33) rfl))) (Or.inr (hw _ (List.mem_of_getElem? (i := 29) rfl))) (by decide) (t := .int) (t' := (.object "com/example/hydrate/hydrate/mapping/IdGenerator$Kind")) (by decide) (by decide)))).other W7 (Or.inr (slot_ne (Or.inr (hw _ (List.mem_of_getElem? (i := 33) rfl))) (Or.inr (hw _ (List.mem_of_getElem? (i := 31) rfl))) (by decide) (t := .int) (t' := (.object "java/lang/String")) (by decide) (by decide)))) ((E_a1.wr W6).wr W7) (Or.inr ⟨(hw _ (List.mem_of_getElem? (i := 33) rfl)), rfl, hnm⟩) (hw _ (List.mem_of_getElem? (i := 15) rfl)) (ty := .int) (by decide) rfl rfl (g := (mkF m 16 #[.val (.ref a1), .val (.ref a2), .val (.ref a3), .val (.int p4)] [(.int p4), (.ref a1)])) rfl rfl (hb hby d3_16)
  have Fw8 := ((F_increment_a1.other W6 (Or.inr (slot_ne (Or.inr (hw _ (List.mem_of_getElem? (i := 33) rfl))) (Or.inr (hw _ (List.mem_of_getElem? (i := 29) rfl))) (by decide) (t := .int) (t' := (.object "com/example/hydrate/hydrate/mapping/IdGenerator$Kind")) (by decide) (by decide)))).other W7 (Or.inr (slot_ne (Or.inr (hw _ (List.mem_of_getElem? (i := 33) rfl))) (Or.inr (hw _ (List.mem_of_getElem? (i := 31) rfl))) (by decide) (t := .int) (t' := (.object "java/lang/String")) (by decide) (by decide)))).same W8      -- the field now holds (.int p4)
  have K8 : Keep h0 h8 [a1] := K7.wr W8 (Or.inl (List.mem_of_getElem? (i := 0) rfl))
  have N8 := Fr.snoc X8 N7 g_a1
  obtain ⟨fs, hr, hrun, hended, hW, hsame⟩ := X8.leave (v := none) (fun _ => rfl)
  refine ⟨_, _, pre0 _ ?_, hrun, hended, _, _, rfl, ?_, ⟨_, rfl⟩, hW, hsame.mono (by decide) (by decide)⟩
  · show Steps p.tables e below (s₁.setTop (mkF m 0 #[.val (.ref a1), .val (.ref a2), .val (.ref a3), .val (.int p4)] [])) _
    refine XS.aloadN X0.here hx rfl (hb hby d3_0) rfl rfl ?_
    show Steps p.tables e below (s₁.setTop (mkF m 1 #[.val (.ref a1), .val (.ref a2), .val (.ref a3), .val (.int p4)] [(.ref a1)])) _
    refine st5.trans ?_
    show Steps p.tables e below (T5.setTop (mkF m 4 #[.val (.ref a1), .val (.ref a2), .val (.ref a3), .val (.int p4)] [])) _
    refine XS.aloadN X5.here hx rfl (hb hby d3_4) rfl rfl ?_
    show Steps p.tables e below (T5.setTop (mkF m 5 #[.val (.ref a1), .val (.ref a2), .val (.ref a3), .val (.int p4)] [(.ref a1)])) _
    refine XS.aloadN X5.here hx rfl (hb hby d3_5) rfl rfl ?_
    show Steps p.tables e below (T5.setTop (mkF m 6 #[.val (.ref a1), .val (.ref a2), .val (.ref a3), .val (.int p4)] [(.ref a2), (.ref a1)])) _
    refine st6 _ ?_
    show Steps p.tables e below (T6.setTop (mkF m 9 #[.val (.ref a1), .val (.ref a2), .val (.ref a3), .val (.int p4)] [])) _
    refine XS.aloadN X6.here hx rfl (hb hby d3_9) rfl rfl ?_
    show Steps p.tables e below (T6.setTop (mkF m 10 #[.val (.ref a1), .val (.ref a2), .val (.ref a3), .val (.int p4)] [(.ref a1)])) _
    refine XS.aloadN X6.here hx rfl (hb hby d3_10) rfl rfl ?_
    show Steps p.tables e below (T6.setTop (mkF m 11 #[.val (.ref a1), .val (.ref a2), .val (.ref a3), .val (.int p4)] [(.ref a3), (.ref a1)])) _
    refine st7 _ ?_
    show Steps p.tables e below (T7.setTop (mkF m 14 #[.val (.ref a1), .val (.ref a2), .val (.ref a3), .val (.int p4)] [])) _
    refine XS.aloadN X7.here hx rfl (hb hby d3_14) rfl rfl ?_
    show Steps p.tables e below (T7.setTop (mkF m 15 #[.val (.ref a1), .val (.ref a2), .val (.ref a3), .val (.int p4)] [(.ref a1)])) _
    refine XS.iloadN X7.here hx rfl (hb hby d3_15) rfl ?_
    show Steps p.tables e below (T7.setTop (mkF m 16 #[.val (.ref a1), .val (.ref a2), .val (.ref a3), .val (.int p4)] [(.int p4), (.ref a1)])) _
    refine st8 _ ?_
    show Steps p.tables e below (T8.setTop (mkF m 19 #[.val (.ref a1), .val (.ref a2), .val (.ref a3), .val (.int p4)] [])) _
    exact X8.returnOut hx Bd.returns (hb hby d3_19) hr
  · show Q_rm3 Z a1 a2 a3 p4 u_kind_a1 u_sequence_a1 u_increment_a1 h0 n0 _ T8.heap _
    rw [e8]
    exact ⟨rfl, N8, K8, (((E_a1.wr W6).wr W7).wr W8), ((Fw6.other W7 (Or.inr (slot_ne (Or.inr (hw _ (List.mem_of_getElem? (i := 29) rfl))) (Or.inr (hw _ (List.mem_of_getElem? (i := 31) rfl))) (by decide) (t := (.object "com/example/hydrate/hydrate/mapping/IdGenerator$Kind")) (t' := (.object "java/lang/String")) (by decide) (by decide)))).other W8 (Or.inr (slot_ne (Or.inr (hw _ (List.mem_of_getElem? (i := 29) rfl))) (Or.inr (hw _ (List.mem_of_getElem? (i := 33) rfl))) (by decide) (t := (.object "com/example/hydrate/hydrate/mapping/IdGenerator$Kind")) (t' := .int) (by decide) (by decide)))), (Fw7.other W8 (Or.inr (slot_ne (Or.inr (hw _ (List.mem_of_getElem? (i := 31) rfl))) (Or.inr (hw _ (List.mem_of_getElem? (i := 33) rfl))) (by decide) (t := (.object "java/lang/String")) (t' := .int) (by decide) (by decide)))), Fw8⟩

theorem ef_3_rm3n (m : MethodId) (x0 : Addr) (x1 : Addr) (x3 : Int32) : entryFrame m #[(.ref x0), (.ref x1), .null, (.int x3)] 4 = mkF m 0 #[.val (.ref x0), .val (.ref x1), .val .null, .val (.int x3)] [] := by first | (simp [entryFrame, mkF, argsToLocals, Value.category]; done) | rfl
def Q_rm3n (Z : State) (a1 : Addr) (a2 : Addr) (p3 : Int32) (u_kind_a1 : Value) (u_sequence_a1 : Value) (u_increment_a1 : Value) (h0 : Heap) (n0 : Nat) (v : Option Value) (h : Heap) (L : List Loc) : Prop := v = none ∧ Fr n0 L ∧ Keep h0 h [a1] ∧ Exa Z h a1 "com/example/hydrate/hydrate/mapping/IdGenerator" ∧ Fld Z h a1 "com/example/hydrate/hydrate/mapping/IdGenerator" "kind" "Lcom/example/hydrate/hydrate/mapping/IdGenerator$Kind;" (.ref a2) ∧ Fld Z h a1 "com/example/hydrate/hydrate/mapping/IdGenerator" "sequence" "Ljava/lang/String;" .null ∧ Fld Z h a1 "com/example/hydrate/hydrate/mapping/IdGenerator" "increment" "I" (.int p3)
set_option maxRecDepth 65536 in
set_option maxHeartbeats 40000000 in
theorem rm3n (l : Launch) (Z : State) (a0 : Array Value) (hw : ∀ d ∈ tables_1, d.before a0 Z = true) (ws : List Jvm.Cond) (a1 : Addr) (a2 : Addr) (p3 : Int32) (u_kind_a1 : Value) (u_sequence_a1 : Value) (u_increment_a1 : Value) (h0 : Heap) (n0 : Nat) (Z0 : n0 ≤ h0.size) (E_a1 : Exa Z h0 a1 "com/example/hydrate/hydrate/mapping/IdGenerator") (F_kind_a1 : Fld Z h0 a1 "com/example/hydrate/hydrate/mapping/IdGenerator" "kind" "Lcom/example/hydrate/hydrate/mapping/IdGenerator$Kind;" u_kind_a1) (g_a1 : n0 ≤ a1) (F_sequence_a1 : Fld Z h0 a1 "com/example/hydrate/hydrate/mapping/IdGenerator" "sequence" "Ljava/lang/String;" u_sequence_a1) (F_increment_a1 : Fld Z h0 a1 "com/example/hydrate/hydrate/mapping/IdGenerator" "increment" "I" u_increment_a1) :
    MetFree l (⟨"com/example/hydrate/hydrate/mapping/IdGenerator", "<init>", "(Lcom/example/hydrate/hydrate/mapping/IdGenerator$Kind;Ljava/lang/String;I)V"⟩ : MethodName) (head1 (Jvm.Cond.code (⟨"com/example/hydrate/hydrate/mapping/IdGenerator", "<init>", "(Lcom/example/hydrate/hydrate/mapping/IdGenerator$Kind;Ljava/lang/String;I)V"⟩ : MethodName) prog_57_method_1_code 4 none :: ws) ({ frames := 2, cells := 0, slots := 0, locals := 24 } : Room)) (fun a U => a = #[(.ref a1), (.ref a2), .null, (.int p3)] ∧ Z.Warmed39 U.vm ∧ U.heap = h0) (fun _ _ _ _ _ => True) (fun _ U o U' => ∃ v L, o = .returned v ∧ Q_rm3n Z a1 a2 p3 u_kind_a1 u_sequence_a1 u_increment_a1 h0 n0 v U'.heap L ∧ FrameEnd U o U' L ({ frames := 2, cells := 0, slots := 0, locals := 24 } : Room).cells ({ frames := 2, cells := 0, slots := 0, locals := 24 } : Room).slots) := by
  refine MetFree.of_bodySF (plainFor_of_name pn_3) hisR ?_
  intro p e s m args below meth c s₁ Bd hml0 hP hK
  obtain ⟨rfl, hZ, hh⟩ := hP
  have hx := Bd.exec
  have hby := Bd.bytes
  have hml : c.maxLocals = 4 := hml0
  have hown : s.vm.findClass "com/example/hydrate/hydrate/mapping/IdGenerator" = some m.cls := findClass_of_methodNamed Bd.named
  have hnm := (name_of_methodNamed Bd.named Bd.method).1
  have X0 : Stand p l e ({ frames := 2, cells := 0, slots := 0, locals := 24 } : Room) s m #[(.ref a1), (.ref a2), .null, (.int p3)] below meth c s₁ [] 0 0 := Stand.of_body Bd
  have e0 : s₁.heap = h0 := by rw [← hh, Bd.state]; rfl
  have N0 := Fr.nil n0
  have pre0 : ∀ t, Steps p.tables e below (s₁.setTop (mkF m 0 #[.val (.ref a1), .val (.ref a2), .val .null, .val (.int p3)] [])) t → Steps p.tables e below (s₁.setTop (entryFrame m #[(.ref a1), (.ref a2), .null, (.int p3)] 4)) t := fun t k => castTop (ef_3_rm3n m a1 a2 p3) k
  obtain ⟨_, _, ⟨T4, L4, k4, n4⟩, -, X4, ⟨Lc4, hQ4, l4, y4, z4⟩, st4⟩ := X0.specialBack hx (y := (⟨"java/lang/Record", "<init>", "()V"⟩ : MethodName)) rfl hown (mvT hZ (hw _ (List.mem_of_getElem? (i := 20) rfl))) (mvT hZ (hw _ (List.mem_of_getElem? (i := 21) rfl))) (mvT hZ (hw _ (List.mem_of_getElem? (i := 24) rfl))) (by decide) (backOf (W := 0) (rm4 l Z a0 hw [] a1 h0 n0 Z0) hZ (hw _ (List.mem_of_getElem? (i := 24) rfl)) (hw _ (List.mem_of_getElem? (i := 23) rfl)) (by decide) (by decide)) (g := (mkF m 1 #[.val (.ref a1), .val (.ref a2), .val .null, .val (.int p3)] [(.ref a1)])) rfl (by rw [hml]; rfl) (Steps.refl _) (a := a1) (argsL := []) (rest := []) (lenOf pd_3_3 rfl) rfl (by show 2 * 0 + _ ≤ _; exact Nat.le_of_eq rfl) (hb hby d3_1) (fun _ _ => ⟨rfl, e0, (by decide : 0 + 0 ≤ _), (by decide : 0 + 0 ≤ _)⟩)
  dsimp only [Pt.U, Pt.locs, Pt.cells, Pt.slots] at X4 l4 y4 z4 st4 hQ4
  subst l4 y4 z4
  obtain ⟨rfl, N4q, eq4⟩ := hQ4
  have N4 := Fr.app N0 N4q
  obtain ⟨T5, h5, X5, e5, W5, st5⟩ := putF X4 hx hZ hown (host := "") (Or.inl (hw _ (List.mem_of_getElem? (i := 28) rfl))) Via.refl eq4 F_kind_a1 E_a1 (Or.inr ⟨(hw _ (List.mem_of_getElem? (i := 29) rfl)), rfl, hnm⟩) (hw _ (List.mem_of_getElem? (i := 15) rfl)) (ty := (.object "com/example/hydrate/hydrate/mapping/IdGenerator$Kind")) (by decide) rfl rfl (g := (mkF m 6 #[.val (.ref a1), .val (.ref a2), .val .null, .val (.int p3)] [(.ref a2), (.ref a1)])) rfl rfl (hb hby d3_6)
  have Fw5 := F_kind_a1.same W5      -- the field now holds (.ref a2)
  have K5 : Keep h0 h5 [a1] := (Keep.refl h0 [a1]).wr W5 (Or.inl (List.mem_of_getElem? (i := 0) rfl))
  have N5 := Fr.snoc X5 N4 g_a1
  obtain ⟨T6, h6, X6, e6, W6, st6⟩ := putF X5 hx hZ hown (host := "") (Or.inl (hw _ (List.mem_of_getElem? (i := 30) rfl))) Via.refl e5 (F_sequence_a1.other W5 (Or.inr (slot_ne (Or.inr (hw _ (List.mem_of_getElem? (i := 31) rfl))) (Or.inr (hw _ (List.mem_of_getElem? (i := 29) rfl))) (by decide) (t := (.object "java/lang/String")) (t' := (.object "com/example/hydrate/hydrate/mapping/IdGenerator$Kind")) (by decide) (by decide)))) (E_a1.wr W5) (Or.inr ⟨(hw _ (List.mem_of_getElem? (i := 31) rfl)), rfl, hnm⟩) (hw _ (List.mem_of_getElem? (i := 15) rfl)) (ty := (.object "java/lang/String")) (by decide) rfl rfl (g := (mkF m 11 #[.val (.ref a1), .val (.ref a2), .val .null, .val (.int p3)] [.null, (.ref a1)])) rfl rfl (hb hby d3_11)
  have Fw6 := (F_sequence_a1.other W5 (Or.inr (slot_ne (Or.inr (hw _ (List.mem_of_getElem? (i := 31) rfl))) (Or.inr (hw _ (List.mem_of_getElem? (i := 29) rfl))) (by decide) (t := (.object "java/lang/String")) (t' := (.object "com/example/hydrate/hydrate/mapping/IdGenerator$Kind")) (by decide) (by decide)))).same W6      -- the field now holds .null
  have K6 : Keep h0 h6 [a1] := K5.wr W6 (Or.inl (List.mem_of_getElem? (i := 0) rfl))
  have N6 := Fr.snoc X6 N5 g_a1
  obtain ⟨T7, h7, X7, e7, W7, st7⟩ := putF X6 hx hZ hown (host := "") (Or.inl (hw _ (List.mem_of_getElem? (i := 32) rfl))) Via.refl e6 ((F_increment_a1.other W5 (Or.inr (slot_ne (Or.inr (hw _ (List.mem_of_getElem? (i := 33) rfl))) (Or.inr (hw _ (List.mem_of_getElem? (i := 29) rfl))) (by decide) (t := .int) (t' := (.object "com/example/hydrate/hydrate/mapping/IdGenerator$Kind")) (by decide) (by decide)))).other W6 (Or.inr (slot_ne (Or.inr (hw _ (List.mem_of_getElem? (i := 33) rfl))) (Or.inr (hw _ (List.mem_of_getElem? (i := 31) rfl))) (by decide) (t := .int) (t' := (.object "java/lang/String")) (by decide) (by decide)))) ((E_a1.wr W5).wr W6) (Or.inr ⟨(hw _ (List.mem_of_getElem? (i := 33) rfl)), rfl, hnm⟩) (hw _ (List.mem_of_getElem? (i := 15) rfl)) (ty := .int) (by decide) rfl rfl (g := (mkF m 16 #[.val (.ref a1), .val (.ref a2), .val .null, .val (.int p3)] [(.int p3), (.ref a1)])) rfl rfl (hb hby d3_16)
  have Fw7 := ((F_increment_a1.other W5 (Or.inr (slot_ne (Or.inr (hw _ (List.mem_of_getElem? (i := 33) rfl))) (Or.inr (hw _ (List.mem_of_getElem? (i := 29) rfl))) (by decide) (t := .int) (t' := (.object "com/example/hydrate/hydrate/mapping/IdGenerator$Kind")) (by decide) (by decide)))).other W6 (Or.inr (slot_ne (Or.inr (hw _ (List.mem_of_getElem? (i := 33) rfl))) (Or.inr (hw _ (List.mem_of_getElem? (i := 31) rfl))) (by decide) (t := .int) (t' := (.object "java/lang/String")) (by decide) (by decide)))).same W7      -- the field now holds (.int p3)
  have K7 : Keep h0 h7 [a1] := K6.wr W7 (Or.inl (List.mem_of_getElem? (i := 0) rfl))
  have N7 := Fr.snoc X7 N6 g_a1
  obtain ⟨fs, hr, hrun, hended, hW, hsame⟩ := X7.leave (v := none) (fun _ => rfl)
  refine ⟨_, _, pre0 _ ?_, hrun, hended, _, _, rfl, ?_, ⟨_, rfl⟩, hW, hsame.mono (by decide) (by decide)⟩
  · show Steps p.tables e below (s₁.setTop (mkF m 0 #[.val (.ref a1), .val (.ref a2), .val .null, .val (.int p3)] [])) _
    refine XS.aloadN X0.here hx rfl (hb hby d3_0) rfl rfl ?_
    show Steps p.tables e below (s₁.setTop (mkF m 1 #[.val (.ref a1), .val (.ref a2), .val .null, .val (.int p3)] [(.ref a1)])) _
    refine st4.trans ?_
    show Steps p.tables e below (T4.setTop (mkF m 4 #[.val (.ref a1), .val (.ref a2), .val .null, .val (.int p3)] [])) _
    refine XS.aloadN X4.here hx rfl (hb hby d3_4) rfl rfl ?_
    show Steps p.tables e below (T4.setTop (mkF m 5 #[.val (.ref a1), .val (.ref a2), .val .null, .val (.int p3)] [(.ref a1)])) _
    refine XS.aloadN X4.here hx rfl (hb hby d3_5) rfl rfl ?_
    show Steps p.tables e below (T4.setTop (mkF m 6 #[.val (.ref a1), .val (.ref a2), .val .null, .val (.int p3)] [(.ref a2), (.ref a1)])) _
    refine st5 _ ?_
    show Steps p.tables e below (T5.setTop (mkF m 9 #[.val (.ref a1), .val (.ref a2), .val .null, .val (.int p3)] [])) _
    refine XS.aloadN X5.here hx rfl (hb hby d3_9) rfl rfl ?_
    show Steps p.tables e below (T5.setTop (mkF m 10 #[.val (.ref a1), .val (.ref a2), .val .null, .val (.int p3)] [(.ref a1)])) _
    refine XS.aloadN X5.here hx rfl (hb hby d3_10) rfl rfl ?_
    show Steps p.tables e below (T5.setTop (mkF m 11 #[.val (.ref a1), .val (.ref a2), .val .null, .val (.int p3)] [.null, (.ref a1)])) _
    refine st6 _ ?_
    show Steps p.tables e below (T6.setTop (mkF m 14 #[.val (.ref a1), .val (.ref a2), .val .null, .val (.int p3)] [])) _
    refine XS.aloadN X6.here hx rfl (hb hby d3_14) rfl rfl ?_
    show Steps p.tables e below (T6.setTop (mkF m 15 #[.val (.ref a1), .val (.ref a2), .val .null, .val (.int p3)] [(.ref a1)])) _
    refine XS.iloadN X6.here hx rfl (hb hby d3_15) rfl ?_
    show Steps p.tables e below (T6.setTop (mkF m 16 #[.val (.ref a1), .val (.ref a2), .val .null, .val (.int p3)] [(.int p3), (.ref a1)])) _
    refine st7 _ ?_
    show Steps p.tables e below (T7.setTop (mkF m 19 #[.val (.ref a1), .val (.ref a2), .val .null, .val (.int p3)] [])) _
    exact X7.returnOut hx Bd.returns (hb hby d3_19) hr
  · show Q_rm3n Z a1 a2 p3 u_kind_a1 u_sequence_a1 u_increment_a1 h0 n0 _ T7.heap _
    rw [e7]
    exact ⟨rfl, N7, K7, (((E_a1.wr W5).wr W6).wr W7), ((Fw5.other W6 (Or.inr (slot_ne (Or.inr (hw _ (List.mem_of_getElem? (i := 29) rfl))) (Or.inr (hw _ (List.mem_of_getElem? (i := 31) rfl))) (by decide) (t := (.object "com/example/hydrate/hydrate/mapping/IdGenerator$Kind")) (t' := (.object "java/lang/String")) (by decide) (by decide)))).other W7 (Or.inr (slot_ne (Or.inr (hw _ (List.mem_of_getElem? (i := 29) rfl))) (Or.inr (hw _ (List.mem_of_getElem? (i := 33) rfl))) (by decide) (t := (.object "com/example/hydrate/hydrate/mapping/IdGenerator$Kind")) (t' := .int) (by decide) (by decide)))), (Fw6.other W7 (Or.inr (slot_ne (Or.inr (hw _ (List.mem_of_getElem? (i := 31) rfl))) (Or.inr (hw _ (List.mem_of_getElem? (i := 33) rfl))) (by decide) (t := (.object "java/lang/String")) (t' := .int) (by decide) (by decide)))), Fw7⟩

theorem d6_0 : decode prog_57_method_2_code 0 = .ok (.aload_n 0, 1) := by decide +kernel
theorem d6_1 : decode prog_57_method_2_code 1 = .ok (.getfield 7, 3) := by decide +kernel
theorem d6_4 : decode prog_57_method_2_code 4 = .ok (.astore_n 2, 1) := by decide +kernel
theorem d6_5 : decode prog_57_method_2_code 5 = .ok (.aload_n 0, 1) := by decide +kernel
theorem d6_6 : decode prog_57_method_2_code 6 = .ok (.getfield 7, 3) := by decide +kernel
theorem d6_9 : decode prog_57_method_2_code 9 = .ok (.getstatic 21, 3) := by decide +kernel
theorem d6_12 : decode prog_57_method_2_code 12 = .ok (.if_acmp .ne 20, 3) := by decide +kernel
theorem d6_32 : decode prog_57_method_2_code 32 = .ok (.aload_n 2, 1) := by decide +kernel
theorem d6_33 : decode prog_57_method_2_code 33 = .ok (.areturn, 1) := by decide +kernel
theorem pn_6 : plainName "com/example/hydrate/hydrate/mapping/IdGenerator" = true := by first | (simp [plainName, overriddenIn]; done) | decide +kernel
theorem ef_6 (m : MethodId) (x0 : Addr) (x1 : Addr) : entryFrame m #[(.ref x0), (.ref x1)] 3 = mkF m 0 #[.val (.ref x0), .val (.ref x1), .unset] [] := by first | (simp [entryFrame, mkF, argsToLocals, Value.category]; done) | rfl
set_option maxRecDepth 65536 in
set_option maxHeartbeats 40000000 in
theorem rm6_t (l : Launch) (Z : State) (a0 : Array Value) (hw : ∀ d ∈ tables_1, d.before a0 Z = true) (ws : List Jvm.Cond) (a1 : Addr) (a2 : Addr) (w_ASSIGNED : Addr) (w_SEQUENCE : Addr) (w_IDENTITY : Addr) (w_NATIVE : Addr) (w3 : Addr) (h0 : Heap) (n0 : Nat) (Z0 : n0 ≤ h0.size) (S_ASSIGNED : Sta Z h0 "com/example/hydrate/hydrate/mapping/IdGenerator$Kind" "ASSIGNED" "Lcom/example/hydrate/hydrate/mapping/IdGenerator$Kind;" (.ref w_ASSIGNED)) (S_SEQUENCE : Sta Z h0 "com/example/hydrate/hydrate/mapping/IdGenerator$Kind" "SEQUENCE" "Lcom/example/hydrate/hydrate/mapping/IdGenerator$Kind;" (.ref w_SEQUENCE)) (S_IDENTITY : Sta Z h0 "com/example/hydrate/hydrate/mapping/IdGenerator$Kind" "IDENTITY" "Lcom/example/hydrate/hydrate/mapping/IdGenerator$Kind;" (.ref w_IDENTITY)) (S_NATIVE : Sta Z h0 "com/example/hydrate/hydrate/mapping/IdGenerator$Kind" "NATIVE" "Lcom/example/hydrate/hydrate/mapping/IdGenerator$Kind;" (.ref w_NATIVE)) (F_kind_a1 : Fld Z h0 a1 "com/example/hydrate/hydrate/mapping/IdGenerator" "kind" "Lcom/example/hydrate/hydrate/mapping/IdGenerator$Kind;" (.ref w3)) (ha12 : ¬ (w3 = w_NATIVE)) :
    MetFree l (⟨"com/example/hydrate/hydrate/mapping/IdGenerator", "on", "(Lcom/example/hydrate/hydrate/dialect/Dialect;)Lcom/example/hydrate/hydrate/mapping/IdGenerator$Kind;"⟩ : MethodName) (head1 (Jvm.Cond.code (⟨"com/example/hydrate/hydrate/mapping/IdGenerator", "on", "(Lcom/example/hydrate/hydrate/dialect/Dialect;)Lcom/example/hydrate/hydrate/mapping/IdGenerator$Kind;"⟩ : MethodName) prog_57_method_2_code 3 (some (.object "com/example/hydrate/hydrate/mapping/IdGenerator$Kind")) :: ws) ({ frames := 0, cells := 0, slots := 0, locals := 0 } : Room)) (fun a U => a = #[(.ref a1), (.ref a2)] ∧ Z.Warmed39 U.vm ∧ U.heap = h0) (fun _ _ _ _ _ => True) (fun _ U o U' => ∃ v L, o = .returned v ∧ QR (some (.ref w3)) h0 n0 v U'.heap L ∧ FrameEnd U o U' L ({ frames := 0, cells := 0, slots := 0, locals := 0 } : Room).cells ({ frames := 0, cells := 0, slots := 0, locals := 0 } : Room).slots) := by
  refine MetFree.of_bodySF (plainFor_of_name pn_6) hisR ?_
  intro p e s m args below meth c s₁ Bd hml0 hP hK
  obtain ⟨rfl, hZ, hh⟩ := hP
  have hx := Bd.exec
  have hby := Bd.bytes
  have hml : c.maxLocals = 3 := hml0
  have hown : s.vm.findClass "com/example/hydrate/hydrate/mapping/IdGenerator" = some m.cls := findClass_of_methodNamed Bd.named
  have hnm := (name_of_methodNamed Bd.named Bd.method).1
  have X0 : Stand p l e ({ frames := 0, cells := 0, slots := 0, locals := 0 } : Room) s m #[(.ref a1), (.ref a2)] below meth c s₁ [] 0 0 := Stand.of_body Bd
  have e0 : s₁.heap = h0 := by rw [← hh, Bd.state]; rfl
  have N0 := Fr.nil n0
  have pre0 : ∀ t, Steps p.tables e below (s₁.setTop (mkF m 0 #[.val (.ref a1), .val (.ref a2), .unset] [])) t → Steps p.tables e below (s₁.setTop (entryFrame m #[(.ref a1), (.ref a2)] 3)) t := fun t k => castTop (ef_6 m a1 a2) k
  obtain ⟨T4, X4, e4, st4⟩ := getF X0 hx hZ hown (host := "") (Or.inl (hw _ (List.mem_of_getElem? (i := 28) rfl))) Via.refl e0 F_kind_a1 (g := (mkF m 1 #[.val (.ref a1), .val (.ref a2), .unset] [(.ref a1)])) rfl rfl (hb hby d6_1)
  obtain ⟨T5, X5, e5, st5⟩ := getF X4 hx hZ hown (host := "") (Or.inl (hw _ (List.mem_of_getElem? (i := 28) rfl))) Via.refl e4 F_kind_a1 (g := (mkF m 6 #[.val (.ref a1), .val (.ref a2), .val (.ref w3)] [(.ref a1)])) rfl rfl (hb hby d6_6)
  obtain ⟨T6, X6, e6, st6⟩ := getS2 X5 hx hZ hown (host := "") (Or.inl (hw _ (List.mem_of_getElem? (i := 39) rfl))) Via.refl e5 S_NATIVE (g := (mkF m 9 #[.val (.ref a1), .val (.ref a2), .val (.ref w3)] [(.ref w3)])) rfl (hb hby d6_9)
  obtain ⟨fs, hr, hrun, hended, hW, hsame⟩ := X6.leave (v := some (.ref w3)) (fun h => by rw [Bd.returns] at h; cases h)
  refine ⟨_, _, pre0 _ ?_, hrun, hended, _, _, rfl, ?_, ⟨_, rfl⟩, hW, hsame.mono (by decide) (by decide)⟩
  · show Steps p.tables e below (s₁.setTop (mkF m 0 #[.val (.ref a1), .val (.ref a2), .unset] [])) _
    refine XS.aloadN X0.here hx rfl (hb hby d6_0) rfl rfl ?_
    show Steps p.tables e below (s₁.setTop (mkF m 1 #[.val (.ref a1), .val (.ref a2), .unset] [(.ref a1)])) _
    refine st4 _ ?_
    show Steps p.tables e below (T4.setTop (mkF m 4 #[.val (.ref a1), .val (.ref a2), .unset] [(.ref w3)])) _
    refine XS.astoreN X4.here hx rfl (hb hby d6_4) rfl rfl (l' := #[.val (.ref a1), .val (.ref a2), .val (.ref w3)]) rfl ?_
    show Steps p.tables e below (T4.setTop (mkF m 5 #[.val (.ref a1), .val (.ref a2), .val (.ref w3)] [])) _
    refine XS.aloadN X4.here hx rfl (hb hby d6_5) rfl rfl ?_
    show Steps p.tables e below (T4.setTop (mkF m 6 #[.val (.ref a1), .val (.ref a2), .val (.ref w3)] [(.ref a1)])) _
    refine st5 _ ?_
    show Steps p.tables e below (T5.setTop (mkF m 9 #[.val (.ref a1), .val (.ref a2), .val (.ref w3)] [(.ref w3)])) _
    refine st6 _ ?_
    show Steps p.tables e below (T6.setTop (mkF m 12 #[.val (.ref a1), .val (.ref a2), .val (.ref w3)] [(.ref w_NATIVE), (.ref w3)])) _
    refine Jvm.RoadKit.acmp (g := (mkF m 12 #[.val (.ref a1), .val (.ref a2), .val (.ref w3)] [(.ref w_NATIVE), (.ref w3)])) X6 hx rfl rfl rfl (pc0 := 12) (pc' := 32) (same := false) rfl (hb hby d6_12) rfl (decide_eq_false fun q => ha12 (Value.ref.inj q)) (by decide) (by decide) ?_
    show Steps p.tables e below (T6.setTop (mkF m 32 #[.val (.ref a1), .val (.ref a2), .val (.ref w3)] [])) _
    refine XS.aloadN X6.here hx rfl (hb hby d6_32) rfl rfl ?_
    show Steps p.tables e below (T6.setTop (mkF m 33 #[.val (.ref a1), .val (.ref a2), .val (.ref w3)] [(.ref w3)])) _
    jvm_step X6.here [X6.here.top, hx, (hb hby d6_33), X6.method', Bd.returns, Value.isRef, FieldType.isReference]
    first | (intro acts; rw [hr _ acts rfl rfl rfl]) | rw [hr _ _ rfl rfl rfl]
    exact Steps.refl _
  · show QR (some (.ref w3)) h0 n0 _ T6.heap _
    rw [e6]
    exact ⟨rfl, N0, rfl⟩

theorem d6_15 : decode prog_57_method_2_code 15 = .ok (.aload_n 1, 1) := by decide +kernel
theorem d6_16 : decode prog_57_method_2_code 16 = .ok (.invokevirtual 26, 3) := by decide +kernel
theorem d6_19 : decode prog_57_method_2_code 19 = .ok (.ifCond .eq 9, 3) := by decide +kernel
theorem d6_22 : decode prog_57_method_2_code 22 = .ok (.getstatic 32, 3) := by decide +kernel
theorem d6_25 : decode prog_57_method_2_code 25 = .ok (.goto 6, 3) := by decide +kernel
theorem d6_31 : decode prog_57_method_2_code 31 = .ok (.astore_n 2, 1) := by decide +kernel
theorem pd_6_6 : parseMethodDescriptor "()Z" = some ⟨[], some .boolean⟩ := by decide +kernel
set_option maxRecDepth 65536 in
set_option maxHeartbeats 40000000 in
theorem rm6_1 (l : Launch) (Z : State) (a0 : Array Value) (hw : ∀ d ∈ tables_1, d.before a0 Z = true) (ws : List Jvm.Cond) (a1 : Addr) (a2 : Addr) (w_ASSIGNED : Addr) (w_SEQUENCE : Addr) (w_IDENTITY : Addr) (w_NATIVE : Addr) (w3 : Addr) (h0 : Heap) (n0 : Nat) (Z0 : n0 ≤ h0.size) (S_ASSIGNED : Sta Z h0 "com/example/hydrate/hydrate/mapping/IdGenerator$Kind" "ASSIGNED" "Lcom/example/hydrate/hydrate/mapping/IdGenerator$Kind;" (.ref w_ASSIGNED)) (S_SEQUENCE : Sta Z h0 "com/example/hydrate/hydrate/mapping/IdGenerator$Kind" "SEQUENCE" "Lcom/example/hydrate/hydrate/mapping/IdGenerator$Kind;" (.ref w_SEQUENCE)) (S_IDENTITY : Sta Z h0 "com/example/hydrate/hydrate/mapping/IdGenerator$Kind" "IDENTITY" "Lcom/example/hydrate/hydrate/mapping/IdGenerator$Kind;" (.ref w_IDENTITY)) (S_NATIVE : Sta Z h0 "com/example/hydrate/hydrate/mapping/IdGenerator$Kind" "NATIVE" "Lcom/example/hydrate/hydrate/mapping/IdGenerator$Kind;" (.ref w_NATIVE)) (F_nativeSequences_a2 : Fld Z h0 a2 "com/example/hydrate/hydrate/dialect/Dialect" "nativeSequences" "Z" (.int (1 : Int32))) (F_kind_a1 : Fld Z h0 a1 "com/example/hydrate/hydrate/mapping/IdGenerator" "kind" "Lcom/example/hydrate/hydrate/mapping/IdGenerator$Kind;" (.ref w3)) (E_a2 : Exa Z h0 a2 "com/example/hydrate/hydrate/dialect/Dialect$1") (ha12 : w3 = w_NATIVE) (hc19 : ¬ ((1 : Int32) = (0 : Int32))) :
    MetFree l (⟨"com/example/hydrate/hydrate/mapping/IdGenerator", "on", "(Lcom/example/hydrate/hydrate/dialect/Dialect;)Lcom/example/hydrate/hydrate/mapping/IdGenerator$Kind;"⟩ : MethodName) (head1 (Jvm.Cond.code (⟨"com/example/hydrate/hydrate/mapping/IdGenerator", "on", "(Lcom/example/hydrate/hydrate/dialect/Dialect;)Lcom/example/hydrate/hydrate/mapping/IdGenerator$Kind;"⟩ : MethodName) prog_57_method_2_code 3 (some (.object "com/example/hydrate/hydrate/mapping/IdGenerator$Kind")) :: ws) ({ frames := 1, cells := 0, slots := 0, locals := 12 } : Room)) (fun a U => a = #[(.ref a1), (.ref a2)] ∧ Z.Warmed39 U.vm ∧ U.heap = h0) (fun _ _ _ _ _ => True) (fun _ U o U' => ∃ v L, o = .returned v ∧ QR (some (.ref w_SEQUENCE)) h0 n0 v U'.heap L ∧ FrameEnd U o U' L ({ frames := 1, cells := 0, slots := 0, locals := 12 } : Room).cells ({ frames := 1, cells := 0, slots := 0, locals := 12 } : Room).slots) := by
  refine MetFree.of_bodySF (plainFor_of_name pn_6) hisR ?_
  intro p e s m args below meth c s₁ Bd hml0 hP hK
  obtain ⟨rfl, hZ, hh⟩ := hP
  have hx := Bd.exec
  have hby := Bd.bytes
  have hml : c.maxLocals = 3 := hml0
  have hown : s.vm.findClass "com/example/hydrate/hydrate/mapping/IdGenerator" = some m.cls := findClass_of_methodNamed Bd.named
  have hnm := (name_of_methodNamed Bd.named Bd.method).1
  have X0 : Stand p l e ({ frames := 1, cells := 0, slots := 0, locals := 12 } : Room) s m #[(.ref a1), (.ref a2)] below meth c s₁ [] 0 0 := Stand.of_body Bd
  have e0 : s₁.heap = h0 := by rw [← hh, Bd.state]; rfl
  have N0 := Fr.nil n0
  have pre0 : ∀ t, Steps p.tables e below (s₁.setTop (mkF m 0 #[.val (.ref a1), .val (.ref a2), .unset] [])) t → Steps p.tables e below (s₁.setTop (entryFrame m #[(.ref a1), (.ref a2)] 3)) t := fun t k => castTop (ef_6 m a1 a2) k
  obtain ⟨T4, X4, e4, st4⟩ := getF X0 hx hZ hown (host := "") (Or.inl (hw _ (List.mem_of_getElem? (i := 28) rfl))) Via.refl e0 F_kind_a1 (g := (mkF m 1 #[.val (.ref a1), .val (.ref a2), .unset] [(.ref a1)])) rfl rfl (hb hby d6_1)
  obtain ⟨T5, X5, e5, st5⟩ := getF X4 hx hZ hown (host := "") (Or.inl (hw _ (List.mem_of_getElem? (i := 28) rfl))) Via.refl e4 F_kind_a1 (g := (mkF m 6 #[.val (.ref a1), .val (.ref a2), .val (.ref w3)] [(.ref a1)])) rfl rfl (hb hby d6_6)
  obtain ⟨T6, X6, e6, st6⟩ := getS2 X5 hx hZ hown (host := "") (Or.inl (hw _ (List.mem_of_getElem? (i := 39) rfl))) Via.refl e5 S_NATIVE (g := (mkF m 9 #[.val (.ref a1), .val (.ref a2), .val (.ref w3)] [(.ref w3)])) rfl (hb hby d6_9)
  obtain ⟨cq7, kq7, q7a, q7b, q7c⟩ := isOf hZ e6 E_a2
  obtain ⟨_, _, ⟨T7, L7, k7, n7⟩, -, X7, ⟨Lc7, hQ7, l7, y7, z7⟩, st7⟩ := X6.virtualBack hx (y := (⟨"com/example/hydrate/hydrate/dialect/Dialect", "nativeSequences", "()Z"⟩ : MethodName)) (z := (⟨"com/example/hydrate/hydrate/dialect/Dialect", "nativeSequences", "()Z"⟩ : MethodName)) hown (mvT hZ (hw _ (List.mem_of_getElem? (i := 49) rfl))) (mvT hZ (hw _ (List.mem_of_getElem? (i := 50) rfl))) (notFace_of_selects (args := #[]) (mvT hZ (hw _ (List.mem_of_getElem? (i := 91) rfl)))) (mvT hZ (hw _ (List.mem_of_getElem? (i := 91) rfl))) (mvT hZ (hw _ (List.mem_of_getElem? (i := 51) rfl))) (by decide) (backOf (W := 0) (rm8_1 l Z a0 hw [] a2 h0 n0 Z0 F_nativeSequences_a2) hZ (hw _ (List.mem_of_getElem? (i := 53) rfl)) (hw _ (List.mem_of_getElem? (i := 12) rfl)) (by decide) (by decide)) q7a q7c (g := (mkF m 16 #[.val (.ref a1), .val (.ref a2), .val (.ref w3)] [(.ref a2)])) rfl (by rw [hml]; rfl) (Steps.refl _) (argsL := []) (rest := []) (lenOf pd_6_6 rfl) rfl (by show 2 * 0 + _ ≤ _; exact Nat.le_of_eq rfl) (hb hby d6_16) (fun _ _ => ⟨rfl, e6, (by decide : 0 + 0 ≤ _), (by decide : 0 + 0 ≤ _)⟩)
  dsimp only [Pt.U, Pt.locs, Pt.cells, Pt.slots] at X7 l7 y7 z7 st7 hQ7
  subst l7 y7 z7
  obtain ⟨rfl, N7q, eq7⟩ := hQ7
  have N7 := Fr.app N0 N7q
  obtain ⟨T8, X8, e8, st8⟩ := getS2 X7 hx hZ hown (host := "") (Or.inl (hw _ (List.mem_of_getElem? (i := 56) rfl))) Via.refl eq7 S_SEQUENCE (g := (mkF m 22 #[.val (.ref a1), .val (.ref a2), .val (.ref w3)] [])) rfl (hb hby d6_22)
  obtain ⟨fs, hr, hrun, hended, hW, hsame⟩ := X8.leave (v := some (.ref w_SEQUENCE)) (fun h => by rw [Bd.returns] at h; cases h)
  refine ⟨_, _, pre0 _ ?_, hrun, hended, _, _, rfl, ?_, ⟨_, rfl⟩, hW, hsame.mono (by decide) (by decide)⟩
  · show Steps p.tables e below (s₁.setTop (mkF m 0 #[.val (.ref a1), .val (.ref a2), .unset] [])) _
    refine XS.aloadN X0.here hx rfl (hb hby d6_0) rfl rfl ?_
    show Steps p.tables e below (s₁.setTop (mkF m 1 #[.val (.ref a1), .val (.ref a2), .unset] [(.ref a1)])) _
    refine st4 _ ?_
    show Steps p.tables e below (T4.setTop (mkF m 4 #[.val (.ref a1), .val (.ref a2), .unset] [(.ref w3)])) _
    refine XS.astoreN X4.here hx rfl (hb hby d6_4) rfl rfl (l' := #[.val (.ref a1), .val (.ref a2), .val (.ref w3)]) rfl ?_
    show Steps p.tables e below (T4.setTop (mkF m 5 #[.val (.ref a1), .val (.ref a2), .val (.ref w3)] [])) _
    refine XS.aloadN X4.here hx rfl (hb hby d6_5) rfl rfl ?_
    show Steps p.tables e below (T4.setTop (mkF m 6 #[.val (.ref a1), .val (.ref a2), .val (.ref w3)] [(.ref a1)])) _
    refine st5 _ ?_
    show Steps p.tables e below (T5.setTop (mkF m 9 #[.val (.ref a1), .val (.ref a2), .val (.ref w3)] [(.ref w3)])) _
    refine st6 _ ?_
    show Steps p.tables e below (T6.setTop (mkF m 12 #[.val (.ref a1), .val (.ref a2), .val (.ref w3)] [(.ref w_NATIVE), (.ref w3)])) _
    refine Jvm.RoadKit.acmp (g := (mkF m 12 #[.val (.ref a1), .val (.ref a2), .val (.ref w3)] [(.ref w_NATIVE), (.ref w3)])) X6 hx rfl rfl rfl (pc0 := 12) (pc' := 15) (same := true) rfl (hb hby d6_12) rfl (decide_eq_true (congrArg Value.ref ha12)) (by decide) (by decide) ?_
    show Steps p.tables e below (T6.setTop (mkF m 15 #[.val (.ref a1), .val (.ref a2), .val (.ref w3)] [])) _
    refine XS.aloadN X6.here hx rfl (hb hby d6_15) rfl rfl ?_
    show Steps p.tables e below (T6.setTop (mkF m 16 #[.val (.ref a1), .val (.ref a2), .val (.ref w3)] [(.ref a2)])) _
    refine st7.trans ?_
    show Steps p.tables e below (T7.setTop (mkF m 19 #[.val (.ref a1), .val (.ref a2), .val (.ref w3)] [(.int (1 : Int32))])) _
    refine XS.ifNo X7.here hx rfl (hb hby d6_19) rfl ((if0 _ _).trans (feq hc19).1) ?_
    show Steps p.tables e below (T7.setTop (mkF m 22 #[.val (.ref a1), .val (.ref a2), .val (.ref w3)] [])) _
    refine st8 _ ?_
    show Steps p.tables e below (T8.setTop (mkF m 25 #[.val (.ref a1), .val (.ref a2), .val (.ref w3)] [(.ref w_SEQUENCE)])) _
    refine XS.goto X8.here hx rfl (pc0 := 25) (pc' := 31) rfl (hb hby d6_25) (by decide) (by decide) ?_
    show Steps p.tables e below (T8.setTop (mkF m 31 #[.val (.ref a1), .val (.ref a2), .val (.ref w3)] [(.ref w_SEQUENCE)])) _
    refine XS.astoreN X8.here hx rfl (hb hby d6_31) rfl rfl (l' := #[.val (.ref a1), .val (.ref a2), .val (.ref w_SEQUENCE)]) rfl ?_
    show Steps p.tables e below (T8.setTop (mkF m 32 #[.val (.ref a1), .val (.ref a2), .val (.ref w_SEQUENCE)] [])) _
    refine XS.aloadN X8.here hx rfl (hb hby d6_32) rfl rfl ?_
    show Steps p.tables e below (T8.setTop (mkF m 33 #[.val (.ref a1), .val (.ref a2), .val (.ref w_SEQUENCE)] [(.ref w_SEQUENCE)])) _
    jvm_step X8.here [X8.here.top, hx, (hb hby d6_33), X8.method', Bd.returns, Value.isRef, FieldType.isReference]
    first | (intro acts; rw [hr _ acts rfl rfl rfl]) | rw [hr _ _ rfl rfl rfl]
    exact Steps.refl _
  · show QR (some (.ref w_SEQUENCE)) h0 n0 _ T8.heap _
    rw [e8]
    exact ⟨rfl, N7, rfl⟩

set_option maxRecDepth 65536 in
set_option maxHeartbeats 40000000 in
theorem rm6_2 (l : Launch) (Z : State) (a0 : Array Value) (hw : ∀ d ∈ tables_1, d.before a0 Z = true) (ws : List Jvm.Cond) (a1 : Addr) (a2 : Addr) (w_ASSIGNED : Addr) (w_SEQUENCE : Addr) (w_IDENTITY : Addr) (w_NATIVE : Addr) (w3 : Addr) (h0 : Heap) (n0 : Nat) (Z0 : n0 ≤ h0.size) (S_ASSIGNED : Sta Z h0 "com/example/hydrate/hydrate/mapping/IdGenerator$Kind" "ASSIGNED" "Lcom/example/hydrate/hydrate/mapping/IdGenerator$Kind;" (.ref w_ASSIGNED)) (S_SEQUENCE : Sta Z h0 "com/example/hydrate/hydrate/mapping/IdGenerator$Kind" "SEQUENCE" "Lcom/example/hydrate/hydrate/mapping/IdGenerator$Kind;" (.ref w_SEQUENCE)) (S_IDENTITY : Sta Z h0 "com/example/hydrate/hydrate/mapping/IdGenerator$Kind" "IDENTITY" "Lcom/example/hydrate/hydrate/mapping/IdGenerator$Kind;" (.ref w_IDENTITY)) (S_NATIVE : Sta Z h0 "com/example/hydrate/hydrate/mapping/IdGenerator$Kind" "NATIVE" "Lcom/example/hydrate/hydrate/mapping/IdGenerator$Kind;" (.ref w_NATIVE)) (F_nativeSequences_a2 : Fld Z h0 a2 "com/example/hydrate/hydrate/dialect/Dialect" "nativeSequences" "Z" (.int (1 : Int32))) (F_kind_a1 : Fld Z h0 a1 "com/example/hydrate/hydrate/mapping/IdGenerator" "kind" "Lcom/example/hydrate/hydrate/mapping/IdGenerator$Kind;" (.ref w3)) (E_a2 : Exa Z h0 a2 "com/example/hydrate/hydrate/dialect/Dialect$2") (ha12 : w3 = w_NATIVE) (hc19 : ¬ ((1 : Int32) = (0 : Int32))) :
    MetFree l (⟨"com/example/hydrate/hydrate/mapping/IdGenerator", "on", "(Lcom/example/hydrate/hydrate/dialect/Dialect;)Lcom/example/hydrate/hydrate/mapping/IdGenerator$Kind;"⟩ : MethodName) (head1 (Jvm.Cond.code (⟨"com/example/hydrate/hydrate/mapping/IdGenerator", "on", "(Lcom/example/hydrate/hydrate/dialect/Dialect;)Lcom/example/hydrate/hydrate/mapping/IdGenerator$Kind;"⟩ : MethodName) prog_57_method_2_code 3 (some (.object "com/example/hydrate/hydrate/mapping/IdGenerator$Kind")) :: ws) ({ frames := 1, cells := 0, slots := 0, locals := 12 } : Room)) (fun a U => a = #[(.ref a1), (.ref a2)] ∧ Z.Warmed39 U.vm ∧ U.heap = h0) (fun _ _ _ _ _ => True) (fun _ U o U' => ∃ v L, o = .returned v ∧ QR (some (.ref w_SEQUENCE)) h0 n0 v U'.heap L ∧ FrameEnd U o U' L ({ frames := 1, cells := 0, slots := 0, locals := 12 } : Room).cells ({ frames := 1, cells := 0, slots := 0, locals := 12 } : Room).slots) := by
  refine MetFree.of_bodySF (plainFor_of_name pn_6) hisR ?_
  intro p e s m args below meth c s₁ Bd hml0 hP hK
  obtain ⟨rfl, hZ, hh⟩ := hP
  have hx := Bd.exec
  have hby := Bd.bytes
  have hml : c.maxLocals = 3 := hml0
  have hown : s.vm.findClass "com/example/hydrate/hydrate/mapping/IdGenerator" = some m.cls := findClass_of_methodNamed Bd.named
  have hnm := (name_of_methodNamed Bd.named Bd.method).1
  have X0 : Stand p l e ({ frames := 1, cells := 0, slots := 0, locals := 12 } : Room) s m #[(.ref a1), (.ref a2)] below meth c s₁ [] 0 0 := Stand.of_body Bd
  have e0 : s₁.heap = h0 := by rw [← hh, Bd.state]; rfl
  have N0 := Fr.nil n0
  have pre0 : ∀ t, Steps p.tables e below (s₁.setTop (mkF m 0 #[.val (.ref a1), .val (.ref a2), .unset] [])) t → Steps p.tables e below (s₁.setTop (entryFrame m #[(.ref a1), (.ref a2)] 3)) t := fun t k => castTop (ef_6 m a1 a2) k
  obtain ⟨T4, X4, e4, st4⟩ := getF X0 hx hZ hown (host := "") (Or.inl (hw _ (List.mem_of_getElem? (i := 28) rfl))) Via.refl e0 F_kind_a1 (g := (mkF m 1 #[.val (.ref a1), .val (.ref a2), .unset] [(.ref a1)])) rfl rfl (hb hby d6_1)
  obtain ⟨T5, X5, e5, st5⟩ := getF X4 hx hZ hown (host := "") (Or.inl (hw _ (List.mem_of_getElem? (i := 28) rfl))) Via.refl e4 F_kind_a1 (g := (mkF m 6 #[.val (.ref a1), .val (.ref a2), .val (.ref w3)] [(.ref a1)])) rfl rfl (hb hby d6_6)
  obtain ⟨T6, X6, e6, st6⟩ := getS2 X5 hx hZ hown (host := "") (Or.inl (hw _ (List.mem_of_getElem? (i := 39) rfl))) Via.refl e5 S_NATIVE (g := (mkF m 9 #[.val (.ref a1), .val (.ref a2), .val (.ref w3)] [(.ref w3)])) rfl (hb hby d6_9)
  obtain ⟨cq7, kq7, q7a, q7b, q7c⟩ := isOf hZ e6 E_a2
  obtain ⟨_, _, ⟨T7, L7, k7, n7⟩, -, X7, ⟨Lc7, hQ7, l7, y7, z7⟩, st7⟩ := X6.virtualBack hx (y := (⟨"com/example/hydrate/hydrate/dialect/Dialect", "nativeSequences", "()Z"⟩ : MethodName)) (z := (⟨"com/example/hydrate/hydrate/dialect/Dialect", "nativeSequences", "()Z"⟩ : MethodName)) hown (mvT hZ (hw _ (List.mem_of_getElem? (i := 49) rfl))) (mvT hZ (hw _ (List.mem_of_getElem? (i := 50) rfl))) (notFace_of_selects (args := #[]) (mvT hZ (hw _ (List.mem_of_getElem? (i := 52) rfl)))) (mvT hZ (hw _ (List.mem_of_getElem? (i := 52) rfl))) (mvT hZ (hw _ (List.mem_of_getElem? (i := 51) rfl))) (by decide) (backOf (W := 0) (rm8_1 l Z a0 hw [] a2 h0 n0 Z0 F_nativeSequences_a2) hZ (hw _ (List.mem_of_getElem? (i := 53) rfl)) (hw _ (List.mem_of_getElem? (i := 12) rfl)) (by decide) (by decide)) q7a q7c (g := (mkF m 16 #[.val (.ref a1), .val (.ref a2), .val (.ref w3)] [(.ref a2)])) rfl (by rw [hml]; rfl) (Steps.refl _) (argsL := []) (rest := []) (lenOf pd_6_6 rfl) rfl (by show 2 * 0 + _ ≤ _; exact Nat.le_of_eq rfl) (hb hby d6_16) (fun _ _ => ⟨rfl, e6, (by decide : 0 + 0 ≤ _), (by decide : 0 + 0 ≤ _)⟩)
  dsimp only [Pt.U, Pt.locs, Pt.cells, Pt.slots] at X7 l7 y7 z7 st7 hQ7
  subst l7 y7 z7
  obtain ⟨rfl, N7q, eq7⟩ := hQ7
  have N7 := Fr.app N0 N7q
  obtain ⟨T8, X8, e8, st8⟩ := getS2 X7 hx hZ hown (host := "") (Or.inl (hw _ (List.mem_of_getElem? (i := 56) rfl))) Via.refl eq7 S_SEQUENCE (g := (mkF m 22 #[.val (.ref a1), .val (.ref a2), .val (.ref w3)] [])) rfl (hb hby d6_22)
  obtain ⟨fs, hr, hrun, hended, hW, hsame⟩ := X8.leave (v := some (.ref w_SEQUENCE)) (fun h => by rw [Bd.returns] at h; cases h)
  refine ⟨_, _, pre0 _ ?_, hrun, hended, _, _, rfl, ?_, ⟨_, rfl⟩, hW, hsame.mono (by decide) (by decide)⟩
  · show Steps p.tables e below (s₁.setTop (mkF m 0 #[.val (.ref a1), .val (.ref a2), .unset] [])) _
    refine XS.aloadN X0.here hx rfl (hb hby d6_0) rfl rfl ?_
    show Steps p.tables e below (s₁.setTop (mkF m 1 #[.val (.ref a1), .val (.ref a2), .unset] [(.ref a1)])) _
    refine st4 _ ?_
    show Steps p.tables e below (T4.setTop (mkF m 4 #[.val (.ref a1), .val (.ref a2), .unset] [(.ref w3)])) _
    refine XS.astoreN X4.here hx rfl (hb hby d6_4) rfl rfl (l' := #[.val (.ref a1), .val (.ref a2), .val (.ref w3)]) rfl ?_
    show Steps p.tables e below (T4.setTop (mkF m 5 #[.val (.ref a1), .val (.ref a2), .val (.ref w3)] [])) _
    refine XS.aloadN X4.here hx rfl (hb hby d6_5) rfl rfl ?_
    show Steps p.tables e below (T4.setTop (mkF m 6 #[.val (.ref a1), .val (.ref a2), .val (.ref w3)] [(.ref a1)])) _
    refine st5 _ ?_
    show Steps p.tables e below (T5.setTop (mkF m 9 #[.val (.ref a1), .val (.ref a2), .val (.ref w3)] [(.ref w3)])) _
    refine st6 _ ?_
    show Steps p.tables e below (T6.setTop (mkF m 12 #[.val (.ref a1), .val (.ref a2), .val (.ref w3)] [(.ref w_NATIVE), (.ref w3)])) _
    refine Jvm.RoadKit.acmp (g := (mkF m 12 #[.val (.ref a1), .val (.ref a2), .val (.ref w3)] [(.ref w_NATIVE), (.ref w3)])) X6 hx rfl rfl rfl (pc0 := 12) (pc' := 15) (same := true) rfl (hb hby d6_12) rfl (decide_eq_true (congrArg Value.ref ha12)) (by decide) (by decide) ?_
    show Steps p.tables e below (T6.setTop (mkF m 15 #[.val (.ref a1), .val (.ref a2), .val (.ref w3)] [])) _
    refine XS.aloadN X6.here hx rfl (hb hby d6_15) rfl rfl ?_
    show Steps p.tables e below (T6.setTop (mkF m 16 #[.val (.ref a1), .val (.ref a2), .val (.ref w3)] [(.ref a2)])) _
    refine st7.trans ?_
    show Steps p.tables e below (T7.setTop (mkF m 19 #[.val (.ref a1), .val (.ref a2), .val (.ref w3)] [(.int (1 : Int32))])) _
    refine XS.ifNo X7.here hx rfl (hb hby d6_19) rfl ((if0 _ _).trans (feq hc19).1) ?_
    show Steps p.tables e below (T7.setTop (mkF m 22 #[.val (.ref a1), .val (.ref a2), .val (.ref w3)] [])) _
    refine st8 _ ?_
    show Steps p.tables e below (T8.setTop (mkF m 25 #[.val (.ref a1), .val (.ref a2), .val (.ref w3)] [(.ref w_SEQUENCE)])) _
    refine XS.goto X8.here hx rfl (pc0 := 25) (pc' := 31) rfl (hb hby d6_25) (by decide) (by decide) ?_
    show Steps p.tables e below (T8.setTop (mkF m 31 #[.val (.ref a1), .val (.ref a2), .val (.ref w3)] [(.ref w_SEQUENCE)])) _
    refine XS.astoreN X8.here hx rfl (hb hby d6_31) rfl rfl (l' := #[.val (.ref a1), .val (.ref a2), .val (.ref w_SEQUENCE)]) rfl ?_
    show Steps p.tables e below (T8.setTop (mkF m 32 #[.val (.ref a1), .val (.ref a2), .val (.ref w_SEQUENCE)] [])) _
    refine XS.aloadN X8.here hx rfl (hb hby d6_32) rfl rfl ?_
    show Steps p.tables e below (T8.setTop (mkF m 33 #[.val (.ref a1), .val (.ref a2), .val (.ref w_SEQUENCE)] [(.ref w_SEQUENCE)])) _
    jvm_step X8.here [X8.here.top, hx, (hb hby d6_33), X8.method', Bd.returns, Value.isRef, FieldType.isReference]
    first | (intro acts; rw [hr _ acts rfl rfl rfl]) | rw [hr _ _ rfl rfl rfl]
    exact Steps.refl _
  · show QR (some (.ref w_SEQUENCE)) h0 n0 _ T8.heap _
    rw [e8]
    exact ⟨rfl, N7, rfl⟩

theorem d6_28 : decode prog_57_method_2_code 28 = .ok (.getstatic 35, 3) := by decide +kernel
set_option maxRecDepth 65536 in
set_option maxHeartbeats 40000000 in
theorem rm6_3 (l : Launch) (Z : State) (a0 : Array Value) (hw : ∀ d ∈ tables_1, d.before a0 Z = true) (ws : List Jvm.Cond) (a1 : Addr) (a2 : Addr) (w_ASSIGNED : Addr) (w_SEQUENCE : Addr) (w_IDENTITY : Addr) (w_NATIVE : Addr) (w3 : Addr) (h0 : Heap) (n0 : Nat) (Z0 : n0 ≤ h0.size) (S_ASSIGNED : Sta Z h0 "com/example/hydrate/hydrate/mapping/IdGenerator$Kind" "ASSIGNED" "Lcom/example/hydrate/hydrate/mapping/IdGenerator$Kind;" (.ref w_ASSIGNED)) (S_SEQUENCE : Sta Z h0 "com/example/hydrate/hydrate/mapping/IdGenerator$Kind" "SEQUENCE" "Lcom/example/hydrate/hydrate/mapping/IdGenerator$Kind;" (.ref w_SEQUENCE)) (S_IDENTITY : Sta Z h0 "com/example/hydrate/hydrate/mapping/IdGenerator$Kind" "IDENTITY" "Lcom/example/hydrate/hydrate/mapping/IdGenerator$Kind;" (.ref w_IDENTITY)) (S_NATIVE : Sta Z h0 "com/example/hydrate/hydrate/mapping/IdGenerator$Kind" "NATIVE" "Lcom/example/hydrate/hydrate/mapping/IdGenerator$Kind;" (.ref w_NATIVE)) (F_nativeSequences_a2 : Fld Z h0 a2 "com/example/hydrate/hydrate/dialect/Dialect" "nativeSequences" "Z" (.int (0 : Int32))) (F_kind_a1 : Fld Z h0 a1 "com/example/hydrate/hydrate/mapping/IdGenerator" "kind" "Lcom/example/hydrate/hydrate/mapping/IdGenerator$Kind;" (.ref w3)) (E_a2 : Exa Z h0 a2 "com/example/hydrate/hydrate/dialect/Dialect$3") (ha12 : w3 = w_NATIVE) :
    MetFree l (⟨"com/example/hydrate/hydrate/mapping/IdGenerator", "on", "(Lcom/example/hydrate/hydrate/dialect/Dialect;)Lcom/example/hydrate/hydrate/mapping/IdGenerator$Kind;"⟩ : MethodName) (head1 (Jvm.Cond.code (⟨"com/example/hydrate/hydrate/mapping/IdGenerator", "on", "(Lcom/example/hydrate/hydrate/dialect/Dialect;)Lcom/example/hydrate/hydrate/mapping/IdGenerator$Kind;"⟩ : MethodName) prog_57_method_2_code 3 (some (.object "com/example/hydrate/hydrate/mapping/IdGenerator$Kind")) :: ws) ({ frames := 1, cells := 0, slots := 0, locals := 12 } : Room)) (fun a U => a = #[(.ref a1), (.ref a2)] ∧ Z.Warmed39 U.vm ∧ U.heap = h0) (fun _ _ _ _ _ => True) (fun _ U o U' => ∃ v L, o = .returned v ∧ QR (some (.ref w_IDENTITY)) h0 n0 v U'.heap L ∧ FrameEnd U o U' L ({ frames := 1, cells := 0, slots := 0, locals := 12 } : Room).cells ({ frames := 1, cells := 0, slots := 0, locals := 12 } : Room).slots) := by
  refine MetFree.of_bodySF (plainFor_of_name pn_6) hisR ?_
  intro p e s m args below meth c s₁ Bd hml0 hP hK
  obtain ⟨rfl, hZ, hh⟩ := hP
  have hx := Bd.exec
  have hby := Bd.bytes
  have hml : c.maxLocals = 3 := hml0
  have hown : s.vm.findClass "com/example/hydrate/hydrate/mapping/IdGenerator" = some m.cls := findClass_of_methodNamed Bd.named
  have hnm := (name_of_methodNamed Bd.named Bd.method).1
  have X0 : Stand p l e ({ frames := 1, cells := 0, slots := 0, locals := 12 } : Room) s m #[(.ref a1), (.ref a2)] below meth c s₁ [] 0 0 := Stand.of_body Bd
  have e0 : s₁.heap = h0 := by rw [← hh, Bd.state]; rfl
  have N0 := Fr.nil n0
  have pre0 : ∀ t, Steps p.tables e below (s₁.setTop (mkF m 0 #[.val (.ref a1), .val (.ref a2), .unset] [])) t → Steps p.tables e below (s₁.setTop (entryFrame m #[(.ref a1), (.ref a2)] 3)) t := fun t k => castTop (ef_6 m a1 a2) k
  obtain ⟨T4, X4, e4, st4⟩ := getF X0 hx hZ hown (host := "") (Or.inl (hw _ (List.mem_of_getElem? (i := 28) rfl))) Via.refl e0 F_kind_a1 (g := (mkF m 1 #[.val (.ref a1), .val (.ref a2), .unset] [(.ref a1)])) rfl rfl (hb hby d6_1)
  obtain ⟨T5, X5, e5, st5⟩ := getF X4 hx hZ hown (host := "") (Or.inl (hw _ (List.mem_of_getElem? (i := 28) rfl))) Via.refl e4 F_kind_a1 (g := (mkF m 6 #[.val (.ref a1), .val (.ref a2), .val (.ref w3)] [(.ref a1)])) rfl rfl (hb hby d6_6)
  obtain ⟨T6, X6, e6, st6⟩ := getS2 X5 hx hZ hown (host := "") (Or.inl (hw _ (List.mem_of_getElem? (i := 39) rfl))) Via.refl e5 S_NATIVE (g := (mkF m 9 #[.val (.ref a1), .val (.ref a2), .val (.ref w3)] [(.ref w3)])) rfl (hb hby d6_9)
  obtain ⟨cq7, kq7, q7a, q7b, q7c⟩ := isOf hZ e6 E_a2
  obtain ⟨_, _, ⟨T7, L7, k7, n7⟩, -, X7, ⟨Lc7, hQ7, l7, y7, z7⟩, st7⟩ := X6.virtualBack hx (y := (⟨"com/example/hydrate/hydrate/dialect/Dialect", "nativeSequences", "()Z"⟩ : MethodName)) (z := (⟨"com/example/hydrate/hydrate/dialect/Dialect", "nativeSequences", "()Z"⟩ : MethodName)) hown (mvT hZ (hw _ (List.mem_of_getElem? (i := 49) rfl))) (mvT hZ (hw _ (List.mem_of_getElem? (i := 50) rfl))) (notFace_of_selects (args := #[]) (mvT hZ (hw _ (List.mem_of_getElem? (i := 88) rfl)))) (mvT hZ (hw _ (List.mem_of_getElem? (i := 88) rfl))) (mvT hZ (hw _ (List.mem_of_getElem? (i := 51) rfl))) (by decide) (backOf (W := 0) (rm8_0 l Z a0 hw [] a2 h0 n0 Z0 F_nativeSequences_a2) hZ (hw _ (List.mem_of_getElem? (i := 53) rfl)) (hw _ (List.mem_of_getElem? (i := 12) rfl)) (by decide) (by decide)) q7a q7c (g := (mkF m 16 #[.val (.ref a1), .val (.ref a2), .val (.ref w3)] [(.ref a2)])) rfl (by rw [hml]; rfl) (Steps.refl _) (argsL := []) (rest := []) (lenOf pd_6_6 rfl) rfl (by show 2 * 0 + _ ≤ _; exact Nat.le_of_eq rfl) (hb hby d6_16) (fun _ _ => ⟨rfl, e6, (by decide : 0 + 0 ≤ _), (by decide : 0 + 0 ≤ _)⟩)
  dsimp only [Pt.U, Pt.locs, Pt.cells, Pt.slots] at X7 l7 y7 z7 st7 hQ7
  subst l7 y7 z7
  obtain ⟨rfl, N7q, eq7⟩ := hQ7
  have N7 := Fr.app N0 N7q
  obtain ⟨T8, X8, e8, st8⟩ := getS2 X7 hx hZ hown (host := "") (Or.inl (hw _ (List.mem_of_getElem? (i := 90) rfl))) Via.refl eq7 S_IDENTITY (g := (mkF m 28 #[.val (.ref a1), .val (.ref a2), .val (.ref w3)] [])) rfl (hb hby d6_28)
  obtain ⟨fs, hr, hrun, hended, hW, hsame⟩ := X8.leave (v := some (.ref w_IDENTITY)) (fun h => by rw [Bd.returns] at h; cases h)
  refine ⟨_, _, pre0 _ ?_, hrun, hended, _, _, rfl, ?_, ⟨_, rfl⟩, hW, hsame.mono (by decide) (by decide)⟩
  · show Steps p.tables e below (s₁.setTop (mkF m 0 #[.val (.ref a1), .val (.ref a2), .unset] [])) _
    refine XS.aloadN X0.here hx rfl (hb hby d6_0) rfl rfl ?_
    show Steps p.tables e below (s₁.setTop (mkF m 1 #[.val (.ref a1), .val (.ref a2), .unset] [(.ref a1)])) _
    refine st4 _ ?_
    show Steps p.tables e below (T4.setTop (mkF m 4 #[.val (.ref a1), .val (.ref a2), .unset] [(.ref w3)])) _
    refine XS.astoreN X4.here hx rfl (hb hby d6_4) rfl rfl (l' := #[.val (.ref a1), .val (.ref a2), .val (.ref w3)]) rfl ?_
    show Steps p.tables e below (T4.setTop (mkF m 5 #[.val (.ref a1), .val (.ref a2), .val (.ref w3)] [])) _
    refine XS.aloadN X4.here hx rfl (hb hby d6_5) rfl rfl ?_
    show Steps p.tables e below (T4.setTop (mkF m 6 #[.val (.ref a1), .val (.ref a2), .val (.ref w3)] [(.ref a1)])) _
    refine st5 _ ?_
    show Steps p.tables e below (T5.setTop (mkF m 9 #[.val (.ref a1), .val (.ref a2), .val (.ref w3)] [(.ref w3)])) _
    refine st6 _ ?_
    show Steps p.tables e below (T6.setTop (mkF m 12 #[.val (.ref a1), .val (.ref a2), .val (.ref w3)] [(.ref w_NATIVE), (.ref w3)])) _
    refine Jvm.RoadKit.acmp (g := (mkF m 12 #[.val (.ref a1), .val (.ref a2), .val (.ref w3)] [(.ref w_NATIVE), (.ref w3)])) X6 hx rfl rfl rfl (pc0 := 12) (pc' := 15) (same := true) rfl (hb hby d6_12) rfl (decide_eq_true (congrArg Value.ref ha12)) (by decide) (by decide) ?_
    show Steps p.tables e below (T6.setTop (mkF m 15 #[.val (.ref a1), .val (.ref a2), .val (.ref w3)] [])) _
    refine XS.aloadN X6.here hx rfl (hb hby d6_15) rfl rfl ?_
    show Steps p.tables e below (T6.setTop (mkF m 16 #[.val (.ref a1), .val (.ref a2), .val (.ref w3)] [(.ref a2)])) _
    refine st7.trans ?_
    show Steps p.tables e below (T7.setTop (mkF m 19 #[.val (.ref a1), .val (.ref a2), .val (.ref w3)] [(.int (0 : Int32))])) _
    refine XS.ifYes X7.here hx rfl (pc0 := 19) (pc' := 28) rfl (hb hby d6_19) rfl ((if0 _ _).trans (teq (rfl : (0 : Int32) = (0 : Int32))).1) (by decide) (by decide) ?_
    show Steps p.tables e below (T7.setTop (mkF m 28 #[.val (.ref a1), .val (.ref a2), .val (.ref w3)] [])) _
    refine st8 _ ?_
    show Steps p.tables e below (T8.setTop (mkF m 31 #[.val (.ref a1), .val (.ref a2), .val (.ref w3)] [(.ref w_IDENTITY)])) _
    refine XS.astoreN X8.here hx rfl (hb hby d6_31) rfl rfl (l' := #[.val (.ref a1), .val (.ref a2), .val (.ref w_IDENTITY)]) rfl ?_
    show Steps p.tables e below (T8.setTop (mkF m 32 #[.val (.ref a1), .val (.ref a2), .val (.ref w_IDENTITY)] [])) _
    refine XS.aloadN X8.here hx rfl (hb hby d6_32) rfl rfl ?_
    show Steps p.tables e below (T8.setTop (mkF m 33 #[.val (.ref a1), .val (.ref a2), .val (.ref w_IDENTITY)] [(.ref w_IDENTITY)])) _
    jvm_step X8.here [X8.here.top, hx, (hb hby d6_33), X8.method', Bd.returns, Value.isRef, FieldType.isReference]
    first | (intro acts; rw [hr _ acts rfl rfl rfl]) | rw [hr _ _ rfl rfl rfl]
    exact Steps.refl _
  · show QR (some (.ref w_IDENTITY)) h0 n0 _ T8.heap _
    rw [e8]
    exact ⟨rfl, N7, rfl⟩

theorem own_char (x : Int32) : ¬ ((255 : Int32) < (x &&& (255 : Int32)).toUInt32.toUInt16.toUInt32.toInt32) := by
  rw [i2c_mask]
  have h := (c_and x 255 (by decide)).2
  have e : (255 : Int32).toInt = 255 := rfl
  rw [Int32.lt_iff_toInt_lt]; omega

theorem pn_0 : plainName "com/example/hydrate/hydrate/mapping/IdGeneratorOnPinLaw" = true := by first | (simp [plainName, overriddenIn]; done) | decide +kernel
theorem pd_0_0 : parseMethodDescriptor "(I)Lcom/example/hydrate/hydrate/mapping/IdGenerator$Kind;" = some ⟨[.int], some (.object "com/example/hydrate/hydrate/mapping/IdGenerator$Kind")⟩ := by decide +kernel
theorem pd_0_1 : parseMethodDescriptor "(I)Lcom/example/hydrate/hydrate/dialect/Dialect;" = some ⟨[.int], some (.object "com/example/hydrate/hydrate/dialect/Dialect")⟩ := by decide +kernel
theorem pd_0_7 : parseMethodDescriptor "(C)Ljava/lang/String;" = some ⟨[.char], some (.object "java/lang/String")⟩ := by decide +kernel
theorem pd_0_2 : parseMethodDescriptor "(Lcom/example/hydrate/hydrate/mapping/IdGenerator$Kind;Ljava/lang/String;I)V" = some ⟨[(.object "com/example/hydrate/hydrate/mapping/IdGenerator$Kind"), (.object "java/lang/String"), .int], none⟩ := by decide +kernel
theorem pd_0_4 : parseMethodDescriptor "(Lcom/example/hydrate/hydrate/dialect/Dialect;)Lcom/example/hydrate/hydrate/mapping/IdGenerator$Kind;" = some ⟨[(.object "com/example/hydrate/hydrate/dialect/Dialect")], some (.object "com/example/hydrate/hydrate/mapping/IdGenerator$Kind")⟩ := by decide +kernel
theorem pd_0_5 : parseMethodDescriptor "()Lcom/example/hydrate/hydrate/mapping/IdGenerator$Kind;" = some ⟨[], some (.object "com/example/hydrate/hydrate/mapping/IdGenerator$Kind")⟩ := by decide +kernel
theorem ef_0 (m : MethodId) (x0 : Int32) (x1 : Int32) (x2 : Int32) (x3 : Int32) : entryFrame m #[(.int x0), (.int x1), (.int x2), (.int x3)] maxLocals = mkF m 0 #[.val (.int x0), .val (.int x1), .val (.int x2), .val (.int x3), .unset, .unset, .unset, .unset, .unset, .unset] [] := by first | (simp [entryFrame, mkF, argsToLocals, Value.category, maxLocals]; done) | rfl
set_option maxRecDepth 65536 in
set_option maxHeartbeats 40000000 in
theorem rm0_fA (l : Launch) (Z : State) (a0 : Array Value) (hw : ∀ d ∈ tables_1, d.before a0 Z = true) (ws : List Jvm.Cond) (p1 : Int32) (p2 : Int32) (p3 : Int32) (p4 : Int32) (w_ASSIGNED : Addr) (w_SEQUENCE : Addr) (w_IDENTITY : Addr) (w_NATIVE : Addr) (w_H2 : Addr) (w_POSTGRESQL : Addr) (w_MARIADB : Addr) (w_k : Addr) (w_d : Addr) (w_COMPACT_STRINGS : Int32) (h0 : Heap) (n0 : Nat) (Z0 : n0 ≤ h0.size) (S_ASSIGNED : Sta Z h0 "com/example/hydrate/hydrate/mapping/IdGenerator$Kind" "ASSIGNED" "Lcom/example/hydrate/hydrate/mapping/IdGenerator$Kind;" (.ref w_ASSIGNED)) (S_SEQUENCE : Sta Z h0 "com/example/hydrate/hydrate/mapping/IdGenerator$Kind" "SEQUENCE" "Lcom/example/hydrate/hydrate/mapping/IdGenerator$Kind;" (.ref w_SEQUENCE)) (S_IDENTITY : Sta Z h0 "com/example/hydrate/hydrate/mapping/IdGenerator$Kind" "IDENTITY" "Lcom/example/hydrate/hydrate/mapping/IdGenerator$Kind;" (.ref w_IDENTITY)) (S_NATIVE : Sta Z h0 "com/example/hydrate/hydrate/mapping/IdGenerator$Kind" "NATIVE" "Lcom/example/hydrate/hydrate/mapping/IdGenerator$Kind;" (.ref w_NATIVE)) (S_H2 : Sta Z h0 "com/example/hydrate/hydrate/dialect/Dialect" "H2" "Lcom/example/hydrate/hydrate/dialect/Dialect;" (.ref w_H2)) (S_POSTGRESQL : Sta Z h0 "com/example/hydrate/hydrate/dialect/Dialect" "POSTGRESQL" "Lcom/example/hydrate/hydrate/dialect/Dialect;" (.ref w_POSTGRESQL)) (S_MARIADB : Sta Z h0 "com/example/hydrate/hydrate/dialect/Dialect" "MARIADB" "Lcom/example/hydrate/hydrate/dialect/Dialect;" (.ref w_MARIADB)) (hk : Kd (p1 &&& (3 : Int32)) w_k w_ASSIGNED w_SEQUENCE w_IDENTITY w_NATIVE) (hd : Dl (HMod.hMod (p2 &&& (2147483647 : Int32)) (3 : Int32)) w_d w_H2 w_POSTGRESQL w_MARIADB) (hcs : ¬ (w_COMPACT_STRINGS = (0 : Int32))) (S_COMPACT_STRINGS : Sta Z h0 "java/lang/String" "COMPACT_STRINGS" "Z" (.int w_COMPACT_STRINGS)) (hn : ¬ (w_k = w_NATIVE)) (hc18 : ¬ ((((p4.toUInt32 >>> ((8 : Int32) &&& 31).toUInt32).toInt32) &&& (1 : Int32)) = (0 : Int32))) (ha64 : ¬ (w_k = w_NATIVE)) :
    MetFree l x (head1 (Jvm.Cond.code x code maxLocals ret :: ws) room_1) (fun a U => a = #[(.int p1), (.int p2), (.int p3), (.int p4)] ∧ Z.Warmed39 U.vm ∧ U.heap = h0) (fun _ _ _ _ _ => True) (fun _ U o U' => ∃ v L, o = .returned v ∧ QL (some (.int (1 : Int32))) n0 v U'.heap L ∧ FrameEnd U o U' L room_1.cells room_1.slots) := by
  refine MetFree.of_bodySF (plainFor_of_name pn_0) hisR ?_
  intro p e s m args below meth c s₁ Bd hml0 hP hK
  obtain ⟨rfl, hZ, hh⟩ := hP
  have hx := Bd.exec
  have hby := Bd.bytes
  have hml : c.maxLocals = 10 := hml0
  have hown : s.vm.findClass "com/example/hydrate/hydrate/mapping/IdGeneratorOnPinLaw" = some m.cls := findClass_of_methodNamed Bd.named
  have hnm := (name_of_methodNamed Bd.named Bd.method).1
  have X0 : Stand p l e room_1 s m #[(.int p1), (.int p2), (.int p3), (.int p4)] below meth c s₁ [] 0 0 := Stand.of_body Bd
  have e0 : s₁.heap = h0 := by rw [← hh, Bd.state]; rfl
  have N0 := Fr.nil n0
  have pre0 : ∀ t, Steps p.tables e below (s₁.setTop (mkF m 0 #[.val (.int p1), .val (.int p2), .val (.int p3), .val (.int p4), .unset, .unset, .unset, .unset, .unset, .unset] [])) t → Steps p.tables e below (s₁.setTop (entryFrame m #[(.int p1), (.int p2), (.int p3), (.int p4)] maxLocals)) t := fun t k => castTop (ef_0 m p1 p2 p3 p4) k
  obtain ⟨_, _, ⟨T5, L5, k5, n5⟩, -, X5, ⟨Lc5, hQ5, l5, y5, z5⟩, st5⟩ := Jvm.LawKit.callS X0 hx (y := (⟨"com/example/hydrate/hydrate/mapping/IdGeneratorOnPinLaw", "kindOf", "(I)Lcom/example/hydrate/hydrate/mapping/IdGenerator$Kind;"⟩ : MethodName)) hown (mvT hZ (hw _ (List.mem_of_getElem? (i := 0) rfl))) (mvT hZ (hw _ (List.mem_of_getElem? (i := 1) rfl))) (mvT hZ (hw _ (List.mem_of_getElem? (i := 2) rfl))) (mvT hZ (hw _ (List.mem_of_getElem? (i := 3) rfl))) (by decide) (backOf (W := 0) (rm1 l Z a0 hw [] p1 w_ASSIGNED w_SEQUENCE w_IDENTITY w_NATIVE w_k h0 n0 Z0 S_ASSIGNED S_SEQUENCE S_IDENTITY S_NATIVE hk) hZ (hw _ (List.mem_of_getElem? (i := 3) rfl)) (hw _ (List.mem_of_getElem? (i := 2) rfl)) (by decide) (by decide)) (g := (mkF m 1 #[.val (.int p1), .val (.int p2), .val (.int p3), .val (.int p4), .unset, .unset, .unset, .unset, .unset, .unset] [(.int p1)])) rfl (by rw [hml]; rfl) (argsL := [(.int p1)]) (rest := []) (lenOf pd_0_0 rfl) rfl (by show 2 * 0 + _ ≤ _; exact Nat.le_of_eq rfl) (hb hby at_1) (fun _ _ => ⟨rfl, e0, (by decide : 0 + 0 ≤ _), (by decide : 0 + 0 ≤ _)⟩)
  dsimp only [Pt.U, Pt.locs, Pt.cells, Pt.slots] at X5 l5 y5 z5 st5 hQ5
  subst l5 y5 z5
  obtain ⟨rfl, N5q, eq5⟩ := hQ5
  have N5 := Fr.app N0 N5q
  obtain ⟨_, _, ⟨T6, L6, k6, n6⟩, -, X6, ⟨Lc6, hQ6, l6, y6, z6⟩, st6⟩ := Jvm.LawKit.callS X5 hx (y := (⟨"com/example/hydrate/hydrate/mapping/IdGeneratorOnPinLaw", "dialectOf", "(I)Lcom/example/hydrate/hydrate/dialect/Dialect;"⟩ : MethodName)) hown (mvT hZ (hw _ (List.mem_of_getElem? (i := 7) rfl))) (mvT hZ (hw _ (List.mem_of_getElem? (i := 8) rfl))) (mvT hZ (hw _ (List.mem_of_getElem? (i := 2) rfl))) (mvT hZ (hw _ (List.mem_of_getElem? (i := 9) rfl))) (by decide) (backOf (W := 0) (rm2 l Z a0 hw [] p2 w_H2 w_POSTGRESQL w_MARIADB w_d h0 n0 Z0 S_H2 S_POSTGRESQL S_MARIADB hd) hZ (hw _ (List.mem_of_getElem? (i := 9) rfl)) (hw _ (List.mem_of_getElem? (i := 2) rfl)) (by decide) (by decide)) (g := (mkF m 7 #[.val (.int p1), .val (.int p2), .val (.int p3), .val (.int p4), .val (.ref w_k), .unset, .unset, .unset, .unset, .unset] [(.int p2)])) rfl (by rw [hml]; rfl) (argsL := [(.int p2)]) (rest := []) (lenOf pd_0_1 rfl) rfl (by show 2 * 0 + _ ≤ _; exact Nat.le_of_eq rfl) (hb hby at_7) (fun _ _ => ⟨rfl, eq5, (by decide : 0 + 0 ≤ _), (by decide : 0 + 0 ≤ _)⟩)
  dsimp only [Pt.U, Pt.locs, Pt.cells, Pt.slots] at X6 l6 y6 z6 st6 hQ6
  subst l6 y6 z6
  obtain ⟨rfl, N6q, eq6⟩ := hQ6
  have N6 := Fr.app N5 N6q
  obtain ⟨_, _, ⟨T7, L7, k7, n7⟩, -, X7, ⟨Lc7, hQ7, l7, y7, z7⟩, st7⟩ := Jvm.LawKit.callS X6 hx (y := (⟨"java/lang/String", "valueOf", "(C)Ljava/lang/String;"⟩ : MethodName)) hown (mvT hZ (hw _ (List.mem_of_getElem? (i := 62) rfl))) (mvT hZ (hw _ (List.mem_of_getElem? (i := 63) rfl))) (mvT hZ (hw _ (List.mem_of_getElem? (i := 64) rfl))) (mvT hZ (hw _ (List.mem_of_getElem? (i := 65) rfl))) (by decide) (backOf (W := 0) (rm9 l Z a0 hw [] (((p4 &&& (255 : Int32)).toUInt32.toUInt16.toUInt32.toInt32)) w_COMPACT_STRINGS h0 n0 Z0 (own_char p4) S_COMPACT_STRINGS hcs (by decide)) hZ (hw _ (List.mem_of_getElem? (i := 65) rfl)) (hw _ (List.mem_of_getElem? (i := 64) rfl)) (by decide) (by decide)) (g := (mkF m 27 #[.val (.int p1), .val (.int p2), .val (.int p3), .val (.int p4), .val (.ref w_k), .val (.ref w_d), .unset, .unset, .unset, .unset] [(.int ((p4 &&& (255 : Int32)).toUInt32.toUInt16.toUInt32.toInt32))])) rfl (by rw [hml]; rfl) (argsL := [(.int ((p4 &&& (255 : Int32)).toUInt32.toUInt16.toUInt32.toInt32))]) (rest := []) (lenOf pd_0_7 rfl) rfl (by show 2 * 0 + _ ≤ _; exact Nat.le_of_eq rfl) (hb hby at_27) (fun _ _ => ⟨rfl, eq6, (by decide : 0 + 2 ≤ _), (by decide : 0 + 5 ≤ _)⟩)
  dsimp only [Pt.U, Pt.locs, Pt.cells, Pt.slots] at X7 l7 y7 z7 st7 hQ7
  subst l7 y7 z7
  obtain ⟨r7, rfl, gr7, sr7, N7q, Kc7⟩ := hQ7
  have N7 := Fr.app N6 N7q
  have K7 : Keep h0 T7.heap [] := (Keep.refl h0 []).trans Kc7 all0
  obtain ⟨T8, h8, X8, e8, E8, A8, D8, -, st8⟩ := newO X7 hx hZ hown (hw _ (List.mem_of_getElem? (i := 14) rfl)) (hw _ (List.mem_of_getElem? (i := 15) rfl)) (hw _ (List.mem_of_getElem? (i := 16) rfl)) rfl (g := (mkF m 36 #[.val (.int p1), .val (.int p2), .val (.int p3), .val (.int p4), .val (.ref w_k), .val (.ref w_d), .val (.ref r7), .unset, .unset, .unset] [])) rfl (hb hby at_36) (by decide) (by decide)
  obtain ⟨b8, g8⟩ : ∃ z, z = T7.heap.size := ⟨_, rfl⟩      -- the fresh object's address
  rw [← g8] at A8 D8 st8      -- A8 : Exa Z h8 b8 "com/example/hydrate/hydrate/mapping/IdGenerator"; E8 : Ext T7.heap h8 (carries every older fact: .ext E8)
  have F_kind_b8 : Fld Z h8 b8 "com/example/hydrate/hydrate/mapping/IdGenerator" "kind" "Lcom/example/hydrate/hydrate/mapping/IdGenerator$Kind;" .null := D8 (Or.inr (hw _ (List.mem_of_getElem? (i := 29) rfl))) (ty := (.object "com/example/hydrate/hydrate/mapping/IdGenerator$Kind")) (by decide)
  have F_sequence_b8 : Fld Z h8 b8 "com/example/hydrate/hydrate/mapping/IdGenerator" "sequence" "Ljava/lang/String;" .null := D8 (Or.inr (hw _ (List.mem_of_getElem? (i := 31) rfl))) (ty := (.object "java/lang/String")) (by decide)
  have F_increment_b8 : Fld Z h8 b8 "com/example/hydrate/hydrate/mapping/IdGenerator" "increment" "I" (.int (0 : Int32)) := D8 (Or.inr (hw _ (List.mem_of_getElem? (i := 33) rfl))) (ty := .int) (by decide)
  have E_b8 := A8
  have g_b8 : n0 ≤ b8 := Nat.le_trans (Nat.le_trans Z0 Kc7.1) (Nat.le_of_eq g8.symm)
  have sz_b8 : h0.size ≤ b8 := (Nat.le_trans K7.1 (Nat.le_of_eq g8.symm))
  have K8 : Keep h0 h8 [] := K7.ext E8
  obtain ⟨_, _, ⟨T9, L9, k9, n9⟩, -, X9, ⟨Lc9, hQ9, l9, y9, z9⟩, st9⟩ := X8.specialBack hx (y := (⟨"com/example/hydrate/hydrate/mapping/IdGenerator", "<init>", "(Lcom/example/hydrate/hydrate/mapping/IdGenerator$Kind;Ljava/lang/String;I)V"⟩ : MethodName)) rfl hown (mvT hZ (hw _ (List.mem_of_getElem? (i := 17) rfl))) (mvT hZ (hw _ (List.mem_of_getElem? (i := 18) rfl))) (mvT hZ (hw _ (List.mem_of_getElem? (i := 19) rfl))) (by decide) (backOf (W := 1) (rm3 l Z a0 hw [] b8 w_k r7 p3 .null .null ((.int (0 : Int32))) h8 n0 (Nat.le_trans (Nat.le_trans Z0 Kc7.1) E8.1) E_b8 F_kind_b8 g_b8 F_sequence_b8 F_increment_b8) hZ (hw _ (List.mem_of_getElem? (i := 19) rfl)) (hw _ (List.mem_of_getElem? (i := 16) rfl)) (by decide) (by decide)) (g := (mkF m 45 #[.val (.int p1), .val (.int p2), .val (.int p3), .val (.int p4), .val (.ref w_k), .val (.ref w_d), .val (.ref r7), .unset, .unset, .unset] [(.int p3), (.ref r7), (.ref w_k), (.ref b8), (.ref b8)])) rfl (by rw [hml]; rfl) (Steps.refl _) (a := b8) (argsL := [(.ref w_k), (.ref r7), (.int p3)]) (rest := [(.ref b8)]) (lenOf pd_0_2 rfl) rfl (by show 2 * 0 + _ ≤ _; exact Nat.le_of_eq rfl) (hb hby at_45) (fun _ _ => ⟨rfl, e8, (by decide : 3 + 0 ≤ _), (by decide : 8 + 0 ≤ _)⟩)
  dsimp only [Pt.U, Pt.locs, Pt.cells, Pt.slots] at X9 l9 y9 z9 st9 hQ9
  subst l9 y9 z9
  obtain ⟨rfl, N9q, Kc9, Ex9, Fk9, Fs9, Fi9⟩ := hQ9
  have N9 := Fr.app N7 N9q
  have K9 : Keep h0 T9.heap [] := K8.trans Kc9 (allS (Or.inr sz_b8) (all0))
  obtain ⟨cq10, kq10, q10a, q10b, q10c⟩ := isOf hZ rfl (E_b8.keep Kc9)
  obtain ⟨_, _, ⟨T10, L10, k10, n10⟩, -, X10, ⟨Lc10, hQ10, l10, y10, z10⟩, st10⟩ := X9.virtualBack hx (y := (⟨"com/example/hydrate/hydrate/mapping/IdGenerator", "on", "(Lcom/example/hydrate/hydrate/dialect/Dialect;)Lcom/example/hydrate/hydrate/mapping/IdGenerator$Kind;"⟩ : MethodName)) (z := (⟨"com/example/hydrate/hydrate/mapping/IdGenerator", "on", "(Lcom/example/hydrate/hydrate/dialect/Dialect;)Lcom/example/hydrate/hydrate/mapping/IdGenerator$Kind;"⟩ : MethodName)) hown (mvT hZ (hw _ (List.mem_of_getElem? (i := 34) rfl))) (mvT hZ (hw _ (List.mem_of_getElem? (i := 35) rfl))) (notFace_of_selects (args := #[]) (mvT hZ (hw _ (List.mem_of_getElem? (i := 37) rfl)))) (mvT hZ (hw _ (List.mem_of_getElem? (i := 37) rfl))) (mvT hZ (hw _ (List.mem_of_getElem? (i := 36) rfl))) (by decide) (backOf (W := 0) (rm6_t l Z a0 hw [] b8 w_d w_ASSIGNED w_SEQUENCE w_IDENTITY w_NATIVE w_k T9.heap n0 (Nat.le_trans (Nat.le_trans (Nat.le_trans Z0 Kc7.1) E8.1) Kc9.1) (own_stak1 ((own_stak0 S_ASSIGNED Kc7).ext E8) Kc9 E_b8) (own_stak1 ((own_stak0 S_SEQUENCE Kc7).ext E8) Kc9 E_b8) (own_stak1 ((own_stak0 S_IDENTITY Kc7).ext E8) Kc9 E_b8) (own_stak1 ((own_stak0 S_NATIVE Kc7).ext E8) Kc9 E_b8) Fk9 hn) hZ (hw _ (List.mem_of_getElem? (i := 38) rfl)) (hw _ (List.mem_of_getElem? (i := 16) rfl)) (by decide) (by decide)) q10a q10c (g := (mkF m 54 #[.val (.int p1), .val (.int p2), .val (.int p3), .val (.int p4), .val (.ref w_k), .val (.ref w_d), .val (.ref r7), .val (.ref b8), .unset, .unset] [(.ref w_d), (.ref b8)])) rfl (by rw [hml]; rfl) (Steps.refl _) (argsL := [(.ref w_d)]) (rest := []) (lenOf pd_0_4 rfl) rfl (by show 2 * 0 + _ ≤ _; exact Nat.le_of_eq rfl) (hb hby at_54) (fun _ _ => ⟨rfl, rfl, (by decide : 3 + 0 ≤ _), (by decide : 8 + 0 ≤ _)⟩)
  dsimp only [Pt.U, Pt.locs, Pt.cells, Pt.slots] at X10 l10 y10 z10 st10 hQ10
  subst l10 y10 z10
  obtain ⟨rfl, N10q, eq10⟩ := hQ10
  have N10 := Fr.app N9 N10q
  obtain ⟨T11, X11, e11, st11⟩ := getS2 X10 hx hZ hown (host := "") (Or.inl (hw _ (List.mem_of_getElem? (i := 41) rfl))) Via.refl eq10 (own_stak1 ((own_stak0 S_NATIVE Kc7).ext E8) Kc9 E_b8) (g := (mkF m 61 #[.val (.int p1), .val (.int p2), .val (.int p3), .val (.int p4), .val (.ref w_k), .val (.ref w_d), .val (.ref r7), .val (.ref b8), .val (.ref w_k), .unset] [(.ref w_k)])) rfl (hb hby at_61)
  obtain ⟨cq12, kq12, q12a, q12b, q12c⟩ := isOf hZ e11 (E_b8.keep Kc9)
  obtain ⟨_, _, ⟨T12, L12, k12, n12⟩, -, X12, ⟨Lc12, hQ12, l12, y12, z12⟩, st12⟩ := X11.virtualBack hx (y := (⟨"com/example/hydrate/hydrate/mapping/IdGenerator", "kind", "()Lcom/example/hydrate/hydrate/mapping/IdGenerator$Kind;"⟩ : MethodName)) (z := (⟨"com/example/hydrate/hydrate/mapping/IdGenerator", "kind", "()Lcom/example/hydrate/hydrate/mapping/IdGenerator$Kind;"⟩ : MethodName)) hown (mvT hZ (hw _ (List.mem_of_getElem? (i := 42) rfl))) (mvT hZ (hw _ (List.mem_of_getElem? (i := 43) rfl))) (notFace_of_selects (args := #[]) (mvT hZ (hw _ (List.mem_of_getElem? (i := 45) rfl)))) (mvT hZ (hw _ (List.mem_of_getElem? (i := 45) rfl))) (mvT hZ (hw _ (List.mem_of_getElem? (i := 44) rfl))) (by decide) (backOf (W := 0) (rm7 l Z a0 hw [] b8 w_k T9.heap n0 (Nat.le_trans (Nat.le_trans (Nat.le_trans Z0 Kc7.1) E8.1) Kc9.1) Fk9) hZ (hw _ (List.mem_of_getElem? (i := 46) rfl)) (hw _ (List.mem_of_getElem? (i := 16) rfl)) (by decide) (by decide)) q12a q12c (g := (mkF m 104 #[.val (.int p1), .val (.int p2), .val (.int p3), .val (.int p4), .val (.ref w_k), .val (.ref w_d), .val (.ref r7), .val (.ref b8), .val (.ref w_k), .val (.ref w_k)] [(.ref b8)])) rfl (by rw [hml]; rfl) (Steps.refl _) (argsL := []) (rest := []) (lenOf pd_0_5 rfl) rfl (by show 2 * 0 + _ ≤ _; exact Nat.le_of_eq rfl) (hb hby at_104) (fun _ _ => ⟨rfl, e11, (by decide : 3 + 0 ≤ _), (by decide : 8 + 0 ≤ _)⟩)
  dsimp only [Pt.U, Pt.locs, Pt.cells, Pt.slots] at X12 l12 y12 z12 st12 hQ12
  subst l12 y12 z12
  obtain ⟨rfl, N12q, eq12⟩ := hQ12
  have N12 := Fr.app N10 N12q
  obtain ⟨fs, hr, hrun, hended, hW, hsame⟩ := X12.leave (v := some (.int (1 : Int32))) (fun h => by rw [Bd.returns] at h; cases h)
  refine ⟨_, _, pre0 _ ?_, hrun, hended, _, _, rfl, ?_, ⟨_, rfl⟩, hW, hsame.mono (by decide) (by decide)⟩
  · show Steps p.tables e below (s₁.setTop (mkF m 0 #[.val (.int p1), .val (.int p2), .val (.int p3), .val (.int p4), .unset, .unset, .unset, .unset, .unset, .unset] [])) _
    refine XS.iloadN X0.here hx rfl (hb hby at_0) rfl ?_
    show Steps p.tables e below (s₁.setTop (mkF m 1 #[.val (.int p1), .val (.int p2), .val (.int p3), .val (.int p4), .unset, .unset, .unset, .unset, .unset, .unset] [(.int p1)])) _
    refine st5 _ ?_
    show Steps p.tables e below (T5.setTop (mkF m 4 #[.val (.int p1), .val (.int p2), .val (.int p3), .val (.int p4), .unset, .unset, .unset, .unset, .unset, .unset] [(.ref w_k)])) _
    refine XS.astore X5.here hx rfl (hb hby at_4) rfl rfl (l' := #[.val (.int p1), .val (.int p2), .val (.int p3), .val (.int p4), .val (.ref w_k), .unset, .unset, .unset, .unset, .unset]) rfl ?_
    show Steps p.tables e below (T5.setTop (mkF m 6 #[.val (.int p1), .val (.int p2), .val (.int p3), .val (.int p4), .val (.ref w_k), .unset, .unset, .unset, .unset, .unset] [])) _
    refine XS.iloadN X5.here hx rfl (hb hby at_6) rfl ?_
    show Steps p.tables e below (T5.setTop (mkF m 7 #[.val (.int p1), .val (.int p2), .val (.int p3), .val (.int p4), .val (.ref w_k), .unset, .unset, .unset, .unset, .unset] [(.int p2)])) _
    refine st6 _ ?_
    show Steps p.tables e below (T6.setTop (mkF m 10 #[.val (.int p1), .val (.int p2), .val (.int p3), .val (.int p4), .val (.ref w_k), .unset, .unset, .unset, .unset, .unset] [(.ref w_d)])) _
    refine XS.astore X6.here hx rfl (hb hby at_10) rfl rfl (l' := #[.val (.int p1), .val (.int p2), .val (.int p3), .val (.int p4), .val (.ref w_k), .val (.ref w_d), .unset, .unset, .unset, .unset]) rfl ?_
    show Steps p.tables e below (T6.setTop (mkF m 12 #[.val (.int p1), .val (.int p2), .val (.int p3), .val (.int p4), .val (.ref w_k), .val (.ref w_d), .unset, .unset, .unset, .unset] [])) _
    refine XS.iloadN X6.here hx rfl (hb hby at_12) rfl ?_
    show Steps p.tables e below (T6.setTop (mkF m 13 #[.val (.int p1), .val (.int p2), .val (.int p3), .val (.int p4), .val (.ref w_k), .val (.ref w_d), .unset, .unset, .unset, .unset] [(.int p4)])) _
    refine XS.bipush X6.here hx rfl (hb hby at_13) ?_
    show Steps p.tables e below (T6.setTop (mkF m 15 #[.val (.int p1), .val (.int p2), .val (.int p3), .val (.int p4), .val (.ref w_k), .val (.ref w_d), .unset, .unset, .unset, .unset] [(.int (8 : Int32)), (.int p4)])) _
    refine XS.iushr X6.here hx rfl (hb hby at_15) rfl ?_
    show Steps p.tables e below (T6.setTop (mkF m 16 #[.val (.int p1), .val (.int p2), .val (.int p3), .val (.int p4), .val (.ref w_k), .val (.ref w_d), .unset, .unset, .unset, .unset] [(.int ((p4.toUInt32 >>> ((8 : Int32) &&& 31).toUInt32).toInt32))])) _
    refine XS.iconst X6.here hx rfl (hb hby at_16) ?_
    show Steps p.tables e below (T6.setTop (mkF m 17 #[.val (.int p1), .val (.int p2), .val (.int p3), .val (.int p4), .val (.ref w_k), .val (.ref w_d), .unset, .unset, .unset, .unset] [(.int (1 : Int32)), (.int ((p4.toUInt32 >>> ((8 : Int32) &&& 31).toUInt32).toInt32))])) _
    refine XS.iand X6.here hx rfl (hb hby at_17) rfl ?_
    show Steps p.tables e below (T6.setTop (mkF m 18 #[.val (.int p1), .val (.int p2), .val (.int p3), .val (.int p4), .val (.ref w_k), .val (.ref w_d), .unset, .unset, .unset, .unset] [(.int (((p4.toUInt32 >>> ((8 : Int32) &&& 31).toUInt32).toInt32) &&& (1 : Int32)))])) _
    refine XS.ifNo X6.here hx rfl (hb hby at_18) rfl ((if0 _ _).trans (feq hc18).1) ?_
    show Steps p.tables e below (T6.setTop (mkF m 21 #[.val (.int p1), .val (.int p2), .val (.int p3), .val (.int p4), .val (.ref w_k), .val (.ref w_d), .unset, .unset, .unset, .unset] [])) _
    refine XS.iloadN X6.here hx rfl (hb hby at_21) rfl ?_
    show Steps p.tables e below (T6.setTop (mkF m 22 #[.val (.int p1), .val (.int p2), .val (.int p3), .val (.int p4), .val (.ref w_k), .val (.ref w_d), .unset, .unset, .unset, .unset] [(.int p4)])) _
    refine XS.sipush X6.here hx rfl (hb hby at_22) ?_
    show Steps p.tables e below (T6.setTop (mkF m 25 #[.val (.int p1), .val (.int p2), .val (.int p3), .val (.int p4), .val (.ref w_k), .val (.ref w_d), .unset, .unset, .unset, .unset] [(.int (255 : Int32)), (.int p4)])) _
    refine XS.iand X6.here hx rfl (hb hby at_25) rfl ?_
    show Steps p.tables e below (T6.setTop (mkF m 26 #[.val (.int p1), .val (.int p2), .val (.int p3), .val (.int p4), .val (.ref w_k), .val (.ref w_d), .unset, .unset, .unset, .unset] [(.int (p4 &&& (255 : Int32)))])) _
    refine XS.i2c X6.here hx rfl (hb hby at_26) rfl ?_
    show Steps p.tables e below (T6.setTop (mkF m 27 #[.val (.int p1), .val (.int p2), .val (.int p3), .val (.int p4), .val (.ref w_k), .val (.ref w_d), .unset, .unset, .unset, .unset] [(.int ((p4 &&& (255 : Int32)).toUInt32.toUInt16.toUInt32.toInt32))])) _
    refine st7 _ ?_
    show Steps p.tables e below (T7.setTop (mkF m 30 #[.val (.int p1), .val (.int p2), .val (.int p3), .val (.int p4), .val (.ref w_k), .val (.ref w_d), .unset, .unset, .unset, .unset] [(.ref r7)])) _
    refine XS.goto X7.here hx rfl (pc0 := 30) (pc' := 34) rfl (hb hby at_30) (by decide) (by decide) ?_
    show Steps p.tables e below (T7.setTop (mkF m 34 #[.val (.int p1), .val (.int p2), .val (.int p3), .val (.int p4), .val (.ref w_k), .val (.ref w_d), .unset, .unset, .unset, .unset] [(.ref r7)])) _
    refine XS.astore X7.here hx rfl (hb hby at_34) rfl rfl (l' := #[.val (.int p1), .val (.int p2), .val (.int p3), .val (.int p4), .val (.ref w_k), .val (.ref w_d), .val (.ref r7), .unset, .unset, .unset]) rfl ?_
    show Steps p.tables e below (T7.setTop (mkF m 36 #[.val (.int p1), .val (.int p2), .val (.int p3), .val (.int p4), .val (.ref w_k), .val (.ref w_d), .val (.ref r7), .unset, .unset, .unset] [])) _
    refine st8 _ ?_
    show Steps p.tables e below (T8.setTop (mkF m 39 #[.val (.int p1), .val (.int p2), .val (.int p3), .val (.int p4), .val (.ref w_k), .val (.ref w_d), .val (.ref r7), .unset, .unset, .unset] [(.ref b8)])) _
    refine XS.dup X8.here hx rfl (hb hby at_39) rfl rfl ?_
    show Steps p.tables e below (T8.setTop (mkF m 40 #[.val (.int p1), .val (.int p2), .val (.int p3), .val (.int p4), .val (.ref w_k), .val (.ref w_d), .val (.ref r7), .unset, .unset, .unset] [(.ref b8), (.ref b8)])) _
    refine XS.aload X8.here hx rfl (hb hby at_40) rfl rfl ?_
    show Steps p.tables e below (T8.setTop (mkF m 42 #[.val (.int p1), .val (.int p2), .val (.int p3), .val (.int p4), .val (.ref w_k), .val (.ref w_d), .val (.ref r7), .unset, .unset, .unset] [(.ref w_k), (.ref b8), (.ref b8)])) _
    refine XS.aload X8.here hx rfl (hb hby at_42) rfl rfl ?_
    show Steps p.tables e below (T8.setTop (mkF m 44 #[.val (.int p1), .val (.int p2), .val (.int p3), .val (.int p4), .val (.ref w_k), .val (.ref w_d), .val (.ref r7), .unset, .unset, .unset] [(.ref r7), (.ref w_k), (.ref b8), (.ref b8)])) _
    refine XS.iloadN X8.here hx rfl (hb hby at_44) rfl ?_
    show Steps p.tables e below (T8.setTop (mkF m 45 #[.val (.int p1), .val (.int p2), .val (.int p3), .val (.int p4), .val (.ref w_k), .val (.ref w_d), .val (.ref r7), .unset, .unset, .unset] [(.int p3), (.ref r7), (.ref w_k), (.ref b8), (.ref b8)])) _
    refine st9.trans ?_
    show Steps p.tables e below (T9.setTop (mkF m 48 #[.val (.int p1), .val (.int p2), .val (.int p3), .val (.int p4), .val (.ref w_k), .val (.ref w_d), .val (.ref r7), .unset, .unset, .unset] [(.ref b8)])) _
    refine XS.astore X9.here hx rfl (hb hby at_48) rfl rfl (l' := #[.val (.int p1), .val (.int p2), .val (.int p3), .val (.int p4), .val (.ref w_k), .val (.ref w_d), .val (.ref r7), .val (.ref b8), .unset, .unset]) rfl ?_
    show Steps p.tables e below (T9.setTop (mkF m 50 #[.val (.int p1), .val (.int p2), .val (.int p3), .val (.int p4), .val (.ref w_k), .val (.ref w_d), .val (.ref r7), .val (.ref b8), .unset, .unset] [])) _
    refine XS.aload X9.here hx rfl (hb hby at_50) rfl rfl ?_
    show Steps p.tables e below (T9.setTop (mkF m 52 #[.val (.int p1), .val (.int p2), .val (.int p3), .val (.int p4), .val (.ref w_k), .val (.ref w_d), .val (.ref r7), .val (.ref b8), .unset, .unset] [(.ref b8)])) _
    refine XS.aload X9.here hx rfl (hb hby at_52) rfl rfl ?_
    show Steps p.tables e below (T9.setTop (mkF m 54 #[.val (.int p1), .val (.int p2), .val (.int p3), .val (.int p4), .val (.ref w_k), .val (.ref w_d), .val (.ref r7), .val (.ref b8), .unset, .unset] [(.ref w_d), (.ref b8)])) _
    refine st10.trans ?_
    show Steps p.tables e below (T10.setTop (mkF m 57 #[.val (.int p1), .val (.int p2), .val (.int p3), .val (.int p4), .val (.ref w_k), .val (.ref w_d), .val (.ref r7), .val (.ref b8), .unset, .unset] [(.ref w_k)])) _
    refine XS.astore X10.here hx rfl (hb hby at_57) rfl rfl (l' := #[.val (.int p1), .val (.int p2), .val (.int p3), .val (.int p4), .val (.ref w_k), .val (.ref w_d), .val (.ref r7), .val (.ref b8), .val (.ref w_k), .unset]) rfl ?_
    show Steps p.tables e below (T10.setTop (mkF m 59 #[.val (.int p1), .val (.int p2), .val (.int p3), .val (.int p4), .val (.ref w_k), .val (.ref w_d), .val (.ref r7), .val (.ref b8), .val (.ref w_k), .unset] [])) _
    refine XS.aload X10.here hx rfl (hb hby at_59) rfl rfl ?_
    show Steps p.tables e below (T10.setTop (mkF m 61 #[.val (.int p1), .val (.int p2), .val (.int p3), .val (.int p4), .val (.ref w_k), .val (.ref w_d), .val (.ref r7), .val (.ref b8), .val (.ref w_k), .unset] [(.ref w_k)])) _
    refine st11 _ ?_
    show Steps p.tables e below (T11.setTop (mkF m 64 #[.val (.int p1), .val (.int p2), .val (.int p3), .val (.int p4), .val (.ref w_k), .val (.ref w_d), .val (.ref r7), .val (.ref b8), .val (.ref w_k), .unset] [(.ref w_NATIVE), (.ref w_k)])) _
    refine Jvm.RoadKit.acmp (g := (mkF m 64 #[.val (.int p1), .val (.int p2), .val (.int p3), .val (.int p4), .val (.ref w_k), .val (.ref w_d), .val (.ref r7), .val (.ref b8), .val (.ref w_k), .unset] [(.ref w_NATIVE), (.ref w_k)])) X11 hx rfl rfl rfl (pc0 := 64) (pc' := 67) (same := false) rfl (hb hby at_64) rfl (decide_eq_false fun q => ha64 (Value.ref.inj q)) (by decide) (by decide) ?_
    show Steps p.tables e below (T11.setTop (mkF m 67 #[.val (.int p1), .val (.int p2), .val (.int p3), .val (.int p4), .val (.ref w_k), .val (.ref w_d), .val (.ref r7), .val (.ref b8), .val (.ref w_k), .unset] [])) _
    refine XS.aload X11.here hx rfl (hb hby at_67) rfl rfl ?_
    show Steps p.tables e below (T11.setTop (mkF m 69 #[.val (.int p1), .val (.int p2), .val (.int p3), .val (.int p4), .val (.ref w_k), .val (.ref w_d), .val (.ref r7), .val (.ref b8), .val (.ref w_k), .unset] [(.ref w_k)])) _
    refine XS.astore X11.here hx rfl (hb hby at_69) rfl rfl (l' := #[.val (.int p1), .val (.int p2), .val (.int p3), .val (.int p4), .val (.ref w_k), .val (.ref w_d), .val (.ref r7), .val (.ref b8), .val (.ref w_k), .val (.ref w_k)]) rfl ?_
    show Steps p.tables e below (T11.setTop (mkF m 71 #[.val (.int p1), .val (.int p2), .val (.int p3), .val (.int p4), .val (.ref w_k), .val (.ref w_d), .val (.ref r7), .val (.ref b8), .val (.ref w_k), .val (.ref w_k)] [])) _
    refine XS.goto X11.here hx rfl (pc0 := 71) (pc' := 95) rfl (hb hby at_71) (by decide) (by decide) ?_
    show Steps p.tables e below (T11.setTop (mkF m 95 #[.val (.int p1), .val (.int p2), .val (.int p3), .val (.int p4), .val (.ref w_k), .val (.ref w_d), .val (.ref r7), .val (.ref b8), .val (.ref w_k), .val (.ref w_k)] [])) _
    refine XS.aload X11.here hx rfl (hb hby at_95) rfl rfl ?_
    show Steps p.tables e below (T11.setTop (mkF m 97 #[.val (.int p1), .val (.int p2), .val (.int p3), .val (.int p4), .val (.ref w_k), .val (.ref w_d), .val (.ref r7), .val (.ref b8), .val (.ref w_k), .val (.ref w_k)] [(.ref w_k)])) _
    refine XS.aload X11.here hx rfl (hb hby at_97) rfl rfl ?_
    show Steps p.tables e below (T11.setTop (mkF m 99 #[.val (.int p1), .val (.int p2), .val (.int p3), .val (.int p4), .val (.ref w_k), .val (.ref w_d), .val (.ref r7), .val (.ref b8), .val (.ref w_k), .val (.ref w_k)] [(.ref w_k), (.ref w_k)])) _
    refine Jvm.RoadKit.acmp (g := (mkF m 99 #[.val (.int p1), .val (.int p2), .val (.int p3), .val (.int p4), .val (.ref w_k), .val (.ref w_d), .val (.ref r7), .val (.ref b8), .val (.ref w_k), .val (.ref w_k)] [(.ref w_k), (.ref w_k)])) X11 hx rfl rfl rfl (pc0 := 99) (pc' := 102) (same := true) rfl (hb hby at_99) rfl (decide_eq_true rfl) (by decide) (by decide) ?_
    show Steps p.tables e below (T11.setTop (mkF m 102 #[.val (.int p1), .val (.int p2), .val (.int p3), .val (.int p4), .val (.ref w_k), .val (.ref w_d), .val (.ref r7), .val (.ref b8), .val (.ref w_k), .val (.ref w_k)] [])) _
    refine XS.aload X11.here hx rfl (hb hby at_102) rfl rfl ?_
    show Steps p.tables e below (T11.setTop (mkF m 104 #[.val (.int p1), .val (.int p2), .val (.int p3), .val (.int p4), .val (.ref w_k), .val (.ref w_d), .val (.ref r7), .val (.ref b8), .val (.ref w_k), .val (.ref w_k)] [(.ref b8)])) _
    refine st12.trans ?_
    show Steps p.tables e below (T12.setTop (mkF m 107 #[.val (.int p1), .val (.int p2), .val (.int p3), .val (.int p4), .val (.ref w_k), .val (.ref w_d), .val (.ref r7), .val (.ref b8), .val (.ref w_k), .val (.ref w_k)] [(.ref w_k)])) _
    refine XS.aload X12.here hx rfl (hb hby at_107) rfl rfl ?_
    show Steps p.tables e below (T12.setTop (mkF m 109 #[.val (.int p1), .val (.int p2), .val (.int p3), .val (.int p4), .val (.ref w_k), .val (.ref w_d), .val (.ref r7), .val (.ref b8), .val (.ref w_k), .val (.ref w_k)] [(.ref w_k), (.ref w_k)])) _
    refine Jvm.RoadKit.acmp (g := (mkF m 109 #[.val (.int p1), .val (.int p2), .val (.int p3), .val (.int p4), .val (.ref w_k), .val (.ref w_d), .val (.ref r7), .val (.ref b8), .val (.ref w_k), .val (.ref w_k)] [(.ref w_k), (.ref w_k)])) X12 hx rfl rfl rfl (pc0 := 109) (pc' := 112) (same := true) rfl (hb hby at_109) rfl (decide_eq_true rfl) (by decide) (by decide) ?_
    show Steps p.tables e below (T12.setTop (mkF m 112 #[.val (.int p1), .val (.int p2), .val (.int p3), .val (.int p4), .val (.ref w_k), .val (.ref w_d), .val (.ref r7), .val (.ref b8), .val (.ref w_k), .val (.ref w_k)] [])) _
    refine XS.iconst X12.here hx rfl (hb hby at_112) ?_
    show Steps p.tables e below (T12.setTop (mkF m 113 #[.val (.int p1), .val (.int p2), .val (.int p3), .val (.int p4), .val (.ref w_k), .val (.ref w_d), .val (.ref r7), .val (.ref b8), .val (.ref w_k), .val (.ref w_k)] [(.int (1 : Int32))])) _
    refine XS.goto X12.here hx rfl (pc0 := 113) (pc' := 117) rfl (hb hby at_113) (by decide) (by decide) ?_
    show Steps p.tables e below (T12.setTop (mkF m 117 #[.val (.int p1), .val (.int p2), .val (.int p3), .val (.int p4), .val (.ref w_k), .val (.ref w_d), .val (.ref r7), .val (.ref b8), .val (.ref w_k), .val (.ref w_k)] [(.int (1 : Int32))])) _
    exact retN X12 hx (t := .boolean) Bd.returns (by simp) (hb hby at_117) hr
  · show QL (some (.int (1 : Int32))) n0 _ T12.heap _
    rw [eq12]
    exact ⟨rfl, N12⟩

theorem pd_0_6 : parseMethodDescriptor "()Z" = some ⟨[], some .boolean⟩ := by decide +kernel
set_option maxRecDepth 65536 in
set_option maxHeartbeats 40000000 in
theorem rm0_f1 (l : Launch) (Z : State) (a0 : Array Value) (hw : ∀ d ∈ tables_1, d.before a0 Z = true) (ws : List Jvm.Cond) (p1 : Int32) (p2 : Int32) (p3 : Int32) (p4 : Int32) (w_ASSIGNED : Addr) (w_SEQUENCE : Addr) (w_IDENTITY : Addr) (w_NATIVE : Addr) (w_H2 : Addr) (w_POSTGRESQL : Addr) (w_MARIADB : Addr) (w_d : Addr) (w_COMPACT_STRINGS : Int32) (h0 : Heap) (n0 : Nat) (Z0 : n0 ≤ h0.size) (S_ASSIGNED : Sta Z h0 "com/example/hydrate/hydrate/mapping/IdGenerator$Kind" "ASSIGNED" "Lcom/example/hydrate/hydrate/mapping/IdGenerator$Kind;" (.ref w_ASSIGNED)) (S_SEQUENCE : Sta Z h0 "com/example/hydrate/hydrate/mapping/IdGenerator$Kind" "SEQUENCE" "Lcom/example/hydrate/hydrate/mapping/IdGenerator$Kind;" (.ref w_SEQUENCE)) (S_IDENTITY : Sta Z h0 "com/example/hydrate/hydrate/mapping/IdGenerator$Kind" "IDENTITY" "Lcom/example/hydrate/hydrate/mapping/IdGenerator$Kind;" (.ref w_IDENTITY)) (S_NATIVE : Sta Z h0 "com/example/hydrate/hydrate/mapping/IdGenerator$Kind" "NATIVE" "Lcom/example/hydrate/hydrate/mapping/IdGenerator$Kind;" (.ref w_NATIVE)) (S_H2 : Sta Z h0 "com/example/hydrate/hydrate/dialect/Dialect" "H2" "Lcom/example/hydrate/hydrate/dialect/Dialect;" (.ref w_H2)) (S_POSTGRESQL : Sta Z h0 "com/example/hydrate/hydrate/dialect/Dialect" "POSTGRESQL" "Lcom/example/hydrate/hydrate/dialect/Dialect;" (.ref w_POSTGRESQL)) (S_MARIADB : Sta Z h0 "com/example/hydrate/hydrate/dialect/Dialect" "MARIADB" "Lcom/example/hydrate/hydrate/dialect/Dialect;" (.ref w_MARIADB)) (E_w_d : Exa Z h0 w_d "com/example/hydrate/hydrate/dialect/Dialect$1") (hk : Kd (p1 &&& (3 : Int32)) w_NATIVE w_ASSIGNED w_SEQUENCE w_IDENTITY w_NATIVE) (hd : Dl (HMod.hMod (p2 &&& (2147483647 : Int32)) (3 : Int32)) w_d w_H2 w_POSTGRESQL w_MARIADB) (hcs : ¬ (w_COMPACT_STRINGS = (0 : Int32))) (S_COMPACT_STRINGS : Sta Z h0 "java/lang/String" "COMPACT_STRINGS" "Z" (.int w_COMPACT_STRINGS)) (F_nativeSequences_w_d : Fld Z h0 w_d "com/example/hydrate/hydrate/dialect/Dialect" "nativeSequences" "Z" (.int (1 : Int32))) (hc18 : ¬ ((((p4.toUInt32 >>> ((8 : Int32) &&& 31).toUInt32).toInt32) &&& (1 : Int32)) = (0 : Int32))) (hc79 : ¬ ((1 : Int32) = (0 : Int32))) :
    MetFree l x (head1 (Jvm.Cond.code x code maxLocals ret :: ws) room_1) (fun a U => a = #[(.int p1), (.int p2), (.int p3), (.int p4)] ∧ Z.Warmed39 U.vm ∧ U.heap = h0) (fun _ _ _ _ _ => True) (fun _ U o U' => ∃ v L, o = .returned v ∧ QL (some (.int (1 : Int32))) n0 v U'.heap L ∧ FrameEnd U o U' L room_1.cells room_1.slots) := by
  refine MetFree.of_bodySF (plainFor_of_name pn_0) hisR ?_
  intro p e s m args below meth c s₁ Bd hml0 hP hK
  obtain ⟨rfl, hZ, hh⟩ := hP
  have hx := Bd.exec
  have hby := Bd.bytes
  have hml : c.maxLocals = 10 := hml0
  have hown : s.vm.findClass "com/example/hydrate/hydrate/mapping/IdGeneratorOnPinLaw" = some m.cls := findClass_of_methodNamed Bd.named
  have hnm := (name_of_methodNamed Bd.named Bd.method).1
  have X0 : Stand p l e room_1 s m #[(.int p1), (.int p2), (.int p3), (.int p4)] below meth c s₁ [] 0 0 := Stand.of_body Bd
  have e0 : s₁.heap = h0 := by rw [← hh, Bd.state]; rfl
  have N0 := Fr.nil n0
  have pre0 : ∀ t, Steps p.tables e below (s₁.setTop (mkF m 0 #[.val (.int p1), .val (.int p2), .val (.int p3), .val (.int p4), .unset, .unset, .unset, .unset, .unset, .unset] [])) t → Steps p.tables e below (s₁.setTop (entryFrame m #[(.int p1), (.int p2), (.int p3), (.int p4)] maxLocals)) t := fun t k => castTop (ef_0 m p1 p2 p3 p4) k
  obtain ⟨_, _, ⟨T5, L5, k5, n5⟩, -, X5, ⟨Lc5, hQ5, l5, y5, z5⟩, st5⟩ := Jvm.LawKit.callS X0 hx (y := (⟨"com/example/hydrate/hydrate/mapping/IdGeneratorOnPinLaw", "kindOf", "(I)Lcom/example/hydrate/hydrate/mapping/IdGenerator$Kind;"⟩ : MethodName)) hown (mvT hZ (hw _ (List.mem_of_getElem? (i := 0) rfl))) (mvT hZ (hw _ (List.mem_of_getElem? (i := 1) rfl))) (mvT hZ (hw _ (List.mem_of_getElem? (i := 2) rfl))) (mvT hZ (hw _ (List.mem_of_getElem? (i := 3) rfl))) (by decide) (backOf (W := 0) (rm1 l Z a0 hw [] p1 w_ASSIGNED w_SEQUENCE w_IDENTITY w_NATIVE w_NATIVE h0 n0 Z0 S_ASSIGNED S_SEQUENCE S_IDENTITY S_NATIVE hk) hZ (hw _ (List.mem_of_getElem? (i := 3) rfl)) (hw _ (List.mem_of_getElem? (i := 2) rfl)) (by decide) (by decide)) (g := (mkF m 1 #[.val (.int p1), .val (.int p2), .val (.int p3), .val (.int p4), .unset, .unset, .unset, .unset, .unset, .unset] [(.int p1)])) rfl (by rw [hml]; rfl) (argsL := [(.int p1)]) (rest := []) (lenOf pd_0_0 rfl) rfl (by show 2 * 0 + _ ≤ _; exact Nat.le_of_eq rfl) (hb hby at_1) (fun _ _ => ⟨rfl, e0, (by decide : 0 + 0 ≤ _), (by decide : 0 + 0 ≤ _)⟩)
  dsimp only [Pt.U, Pt.locs, Pt.cells, Pt.slots] at X5 l5 y5 z5 st5 hQ5
  subst l5 y5 z5
  obtain ⟨rfl, N5q, eq5⟩ := hQ5
  have N5 := Fr.app N0 N5q
  obtain ⟨_, _, ⟨T6, L6, k6, n6⟩, -, X6, ⟨Lc6, hQ6, l6, y6, z6⟩, st6⟩ := Jvm.LawKit.callS X5 hx (y := (⟨"com/example/hydrate/hydrate/mapping/IdGeneratorOnPinLaw", "dialectOf", "(I)Lcom/example/hydrate/hydrate/dialect/Dialect;"⟩ : MethodName)) hown (mvT hZ (hw _ (List.mem_of_getElem? (i := 7) rfl))) (mvT hZ (hw _ (List.mem_of_getElem? (i := 8) rfl))) (mvT hZ (hw _ (List.mem_of_getElem? (i := 2) rfl))) (mvT hZ (hw _ (List.mem_of_getElem? (i := 9) rfl))) (by decide) (backOf (W := 0) (rm2 l Z a0 hw [] p2 w_H2 w_POSTGRESQL w_MARIADB w_d h0 n0 Z0 S_H2 S_POSTGRESQL S_MARIADB hd) hZ (hw _ (List.mem_of_getElem? (i := 9) rfl)) (hw _ (List.mem_of_getElem? (i := 2) rfl)) (by decide) (by decide)) (g := (mkF m 7 #[.val (.int p1), .val (.int p2), .val (.int p3), .val (.int p4), .val (.ref w_NATIVE), .unset, .unset, .unset, .unset, .unset] [(.int p2)])) rfl (by rw [hml]; rfl) (argsL := [(.int p2)]) (rest := []) (lenOf pd_0_1 rfl) rfl (by show 2 * 0 + _ ≤ _; exact Nat.le_of_eq rfl) (hb hby at_7) (fun _ _ => ⟨rfl, eq5, (by decide : 0 + 0 ≤ _), (by decide : 0 + 0 ≤ _)⟩)
  dsimp only [Pt.U, Pt.locs, Pt.cells, Pt.slots] at X6 l6 y6 z6 st6 hQ6
  subst l6 y6 z6
  obtain ⟨rfl, N6q, eq6⟩ := hQ6
  have N6 := Fr.app N5 N6q
  obtain ⟨_, _, ⟨T7, L7, k7, n7⟩, -, X7, ⟨Lc7, hQ7, l7, y7, z7⟩, st7⟩ := Jvm.LawKit.callS X6 hx (y := (⟨"java/lang/String", "valueOf", "(C)Ljava/lang/String;"⟩ : MethodName)) hown (mvT hZ (hw _ (List.mem_of_getElem? (i := 62) rfl))) (mvT hZ (hw _ (List.mem_of_getElem? (i := 63) rfl))) (mvT hZ (hw _ (List.mem_of_getElem? (i := 64) rfl))) (mvT hZ (hw _ (List.mem_of_getElem? (i := 65) rfl))) (by decide) (backOf (W := 0) (rm9 l Z a0 hw [] (((p4 &&& (255 : Int32)).toUInt32.toUInt16.toUInt32.toInt32)) w_COMPACT_STRINGS h0 n0 Z0 (own_char p4) S_COMPACT_STRINGS hcs (by decide)) hZ (hw _ (List.mem_of_getElem? (i := 65) rfl)) (hw _ (List.mem_of_getElem? (i := 64) rfl)) (by decide) (by decide)) (g := (mkF m 27 #[.val (.int p1), .val (.int p2), .val (.int p3), .val (.int p4), .val (.ref w_NATIVE), .val (.ref w_d), .unset, .unset, .unset, .unset] [(.int ((p4 &&& (255 : Int32)).toUInt32.toUInt16.toUInt32.toInt32))])) rfl (by rw [hml]; rfl) (argsL := [(.int ((p4 &&& (255 : Int32)).toUInt32.toUInt16.toUInt32.toInt32))]) (rest := []) (lenOf pd_0_7 rfl) rfl (by show 2 * 0 + _ ≤ _; exact Nat.le_of_eq rfl) (hb hby at_27) (fun _ _ => ⟨rfl, eq6, (by decide : 0 + 2 ≤ _), (by decide : 0 + 5 ≤ _)⟩)
  dsimp only [Pt.U, Pt.locs, Pt.cells, Pt.slots] at X7 l7 y7 z7 st7 hQ7
  subst l7 y7 z7
  obtain ⟨r7, rfl, gr7, sr7, N7q, Kc7⟩ := hQ7
  have N7 := Fr.app N6 N7q
  have K7 : Keep h0 T7.heap [] := (Keep.refl h0 []).trans Kc7 all0
  obtain ⟨T8, h8, X8, e8, E8, A8, D8, -, st8⟩ := newO X7 hx hZ hown (hw _ (List.mem_of_getElem? (i := 14) rfl)) (hw _ (List.mem_of_getElem? (i := 15) rfl)) (hw _ (List.mem_of_getElem? (i := 16) rfl)) rfl (g := (mkF m 36 #[.val (.int p1), .val (.int p2), .val (.int p3), .val (.int p4), .val (.ref w_NATIVE), .val (.ref w_d), .val (.ref r7), .unset, .unset, .unset] [])) rfl (hb hby at_36) (by decide) (by decide)
  obtain ⟨b8, g8⟩ : ∃ z, z = T7.heap.size := ⟨_, rfl⟩      -- the fresh object's address
  rw [← g8] at A8 D8 st8      -- A8 : Exa Z h8 b8 "com/example/hydrate/hydrate/mapping/IdGenerator"; E8 : Ext T7.heap h8 (carries every older fact: .ext E8)
  have F_kind_b8 : Fld Z h8 b8 "com/example/hydrate/hydrate/mapping/IdGenerator" "kind" "Lcom/example/hydrate/hydrate/mapping/IdGenerator$Kind;" .null := D8 (Or.inr (hw _ (List.mem_of_getElem? (i := 29) rfl))) (ty := (.object "com/example/hydrate/hydrate/mapping/IdGenerator$Kind")) (by decide)
  have F_sequence_b8 : Fld Z h8 b8 "com/example/hydrate/hydrate/mapping/IdGenerator" "sequence" "Ljava/lang/String;" .null := D8 (Or.inr (hw _ (List.mem_of_getElem? (i := 31) rfl))) (ty := (.object "java/lang/String")) (by decide)
  have F_increment_b8 : Fld Z h8 b8 "com/example/hydrate/hydrate/mapping/IdGenerator" "increment" "I" (.int (0 : Int32)) := D8 (Or.inr (hw _ (List.mem_of_getElem? (i := 33) rfl))) (ty := .int) (by decide)
  have E_b8 := A8
  have g_b8 : n0 ≤ b8 := Nat.le_trans (Nat.le_trans Z0 Kc7.1) (Nat.le_of_eq g8.symm)
  have sz_b8 : h0.size ≤ b8 := (Nat.le_trans K7.1 (Nat.le_of_eq g8.symm))
  have K8 : Keep h0 h8 [] := K7.ext E8
  obtain ⟨_, _, ⟨T9, L9, k9, n9⟩, -, X9, ⟨Lc9, hQ9, l9, y9, z9⟩, st9⟩ := X8.specialBack hx (y := (⟨"com/example/hydrate/hydrate/mapping/IdGenerator", "<init>", "(Lcom/example/hydrate/hydrate/mapping/IdGenerator$Kind;Ljava/lang/String;I)V"⟩ : MethodName)) rfl hown (mvT hZ (hw _ (List.mem_of_getElem? (i := 17) rfl))) (mvT hZ (hw _ (List.mem_of_getElem? (i := 18) rfl))) (mvT hZ (hw _ (List.mem_of_getElem? (i := 19) rfl))) (by decide) (backOf (W := 1) (rm3 l Z a0 hw [] b8 w_NATIVE r7 p3 .null .null ((.int (0 : Int32))) h8 n0 (Nat.le_trans (Nat.le_trans Z0 Kc7.1) E8.1) E_b8 F_kind_b8 g_b8 F_sequence_b8 F_increment_b8) hZ (hw _ (List.mem_of_getElem? (i := 19) rfl)) (hw _ (List.mem_of_getElem? (i := 16) rfl)) (by decide) (by decide)) (g := (mkF m 45 #[.val (.int p1), .val (.int p2), .val (.int p3), .val (.int p4), .val (.ref w_NATIVE), .val (.ref w_d), .val (.ref r7), .unset, .unset, .unset] [(.int p3), (.ref r7), (.ref w_NATIVE), (.ref b8), (.ref b8)])) rfl (by rw [hml]; rfl) (Steps.refl _) (a := b8) (argsL := [(.ref w_NATIVE), (.ref r7), (.int p3)]) (rest := [(.ref b8)]) (lenOf pd_0_2 rfl) rfl (by show 2 * 0 + _ ≤ _; exact Nat.le_of_eq rfl) (hb hby at_45) (fun _ _ => ⟨rfl, e8, (by decide : 3 + 0 ≤ _), (by decide : 8 + 0 ≤ _)⟩)
  dsimp only [Pt.U, Pt.locs, Pt.cells, Pt.slots] at X9 l9 y9 z9 st9 hQ9
  subst l9 y9 z9
  obtain ⟨rfl, N9q, Kc9, Ex9, Fk9, Fs9, Fi9⟩ := hQ9
  have N9 := Fr.app N7 N9q
  have K9 : Keep h0 T9.heap [] := K8.trans Kc9 (allS (Or.inr sz_b8) (all0))
  obtain ⟨cq10, kq10, q10a, q10b, q10c⟩ := isOf hZ rfl (E_b8.keep Kc9)
  obtain ⟨_, _, ⟨T10, L10, k10, n10⟩, -, X10, ⟨Lc10, hQ10, l10, y10, z10⟩, st10⟩ := X9.virtualBack hx (y := (⟨"com/example/hydrate/hydrate/mapping/IdGenerator", "on", "(Lcom/example/hydrate/hydrate/dialect/Dialect;)Lcom/example/hydrate/hydrate/mapping/IdGenerator$Kind;"⟩ : MethodName)) (z := (⟨"com/example/hydrate/hydrate/mapping/IdGenerator", "on", "(Lcom/example/hydrate/hydrate/dialect/Dialect;)Lcom/example/hydrate/hydrate/mapping/IdGenerator$Kind;"⟩ : MethodName)) hown (mvT hZ (hw _ (List.mem_of_getElem? (i := 34) rfl))) (mvT hZ (hw _ (List.mem_of_getElem? (i := 35) rfl))) (notFace_of_selects (args := #[]) (mvT hZ (hw _ (List.mem_of_getElem? (i := 37) rfl)))) (mvT hZ (hw _ (List.mem_of_getElem? (i := 37) rfl))) (mvT hZ (hw _ (List.mem_of_getElem? (i := 36) rfl))) (by decide) (backOf (W := 0) (rm6_1 l Z a0 hw [] b8 w_d w_ASSIGNED w_SEQUENCE w_IDENTITY w_NATIVE w_NATIVE T9.heap n0 (Nat.le_trans (Nat.le_trans (Nat.le_trans Z0 Kc7.1) E8.1) Kc9.1) (own_stak1 ((own_stak0 S_ASSIGNED Kc7).ext E8) Kc9 E_b8) (own_stak1 ((own_stak0 S_SEQUENCE Kc7).ext E8) Kc9 E_b8) (own_stak1 ((own_stak0 S_IDENTITY Kc7).ext E8) Kc9 E_b8) (own_stak1 ((own_stak0 S_NATIVE Kc7).ext E8) Kc9 E_b8) (((F_nativeSequences_w_d.keep Kc7 nin0).ext E8).keep Kc9 (ninS (Nat.ne_of_lt (Nat.lt_of_lt_of_le (E_w_d.keep Kc7).lt (Nat.le_of_eq g8.symm))) nin0)) Fk9 (((E_w_d.keep Kc7).ext E8).keep Kc9) rfl (by decide)) hZ (hw _ (List.mem_of_getElem? (i := 38) rfl)) (hw _ (List.mem_of_getElem? (i := 16) rfl)) (by decide) (by decide)) q10a q10c (g := (mkF m 54 #[.val (.int p1), .val (.int p2), .val (.int p3), .val (.int p4), .val (.ref w_NATIVE), .val (.ref w_d), .val (.ref r7), .val (.ref b8), .unset, .unset] [(.ref w_d), (.ref b8)])) rfl (by rw [hml]; rfl) (Steps.refl _) (argsL := [(.ref w_d)]) (rest := []) (lenOf pd_0_4 rfl) rfl (by show 2 * 0 + _ ≤ _; exact Nat.le_of_eq rfl) (hb hby at_54) (fun _ _ => ⟨rfl, rfl, (by decide : 3 + 0 ≤ _), (by decide : 8 + 0 ≤ _)⟩)
  dsimp only [Pt.U, Pt.locs, Pt.cells, Pt.slots] at X10 l10 y10 z10 st10 hQ10
  subst l10 y10 z10
  obtain ⟨rfl, N10q, eq10⟩ := hQ10
  have N10 := Fr.app N9 N10q
  obtain ⟨T11, X11, e11, st11⟩ := getS2 X10 hx hZ hown (host := "") (Or.inl (hw _ (List.mem_of_getElem? (i := 41) rfl))) Via.refl eq10 (own_stak1 ((own_stak0 S_NATIVE Kc7).ext E8) Kc9 E_b8) (g := (mkF m 61 #[.val (.int p1), .val (.int p2), .val (.int p3), .val (.int p4), .val (.ref w_NATIVE), .val (.ref w_d), .val (.ref r7), .val (.ref b8), .val (.ref w_SEQUENCE), .unset] [(.ref w_NATIVE)])) rfl (hb hby at_61)
  obtain ⟨cq12, kq12, q12a, q12b, q12c⟩ := isOf hZ e11 (((E_w_d.keep Kc7).ext E8).keep Kc9)
  obtain ⟨_, _, ⟨T12, L12, k12, n12⟩, -, X12, ⟨Lc12, hQ12, l12, y12, z12⟩, st12⟩ := X11.virtualBack hx (y := (⟨"com/example/hydrate/hydrate/dialect/Dialect", "nativeSequences", "()Z"⟩ : MethodName)) (z := (⟨"com/example/hydrate/hydrate/dialect/Dialect", "nativeSequences", "()Z"⟩ : MethodName)) hown (mvT hZ (hw _ (List.mem_of_getElem? (i := 58) rfl))) (mvT hZ (hw _ (List.mem_of_getElem? (i := 50) rfl))) (notFace_of_selects (args := #[]) (mvT hZ (hw _ (List.mem_of_getElem? (i := 91) rfl)))) (mvT hZ (hw _ (List.mem_of_getElem? (i := 91) rfl))) (mvT hZ (hw _ (List.mem_of_getElem? (i := 51) rfl))) (by decide) (backOf (W := 0) (rm8_1 l Z a0 hw [] w_d T9.heap n0 (Nat.le_trans (Nat.le_trans (Nat.le_trans Z0 Kc7.1) E8.1) Kc9.1) (((F_nativeSequences_w_d.keep Kc7 nin0).ext E8).keep Kc9 (ninS (Nat.ne_of_lt (Nat.lt_of_lt_of_le (E_w_d.keep Kc7).lt (Nat.le_of_eq g8.symm))) nin0))) hZ (hw _ (List.mem_of_getElem? (i := 53) rfl)) (hw _ (List.mem_of_getElem? (i := 12) rfl)) (by decide) (by decide)) q12a q12c (g := (mkF m 76 #[.val (.int p1), .val (.int p2), .val (.int p3), .val (.int p4), .val (.ref w_NATIVE), .val (.ref w_d), .val (.ref r7), .val (.ref b8), .val (.ref w_SEQUENCE), .unset] [(.ref w_d)])) rfl (by rw [hml]; rfl) (Steps.refl _) (argsL := []) (rest := []) (lenOf pd_0_6 rfl) rfl (by show 2 * 0 + _ ≤ _; exact Nat.le_of_eq rfl) (hb hby at_76) (fun _ _ => ⟨rfl, e11, (by decide : 3 + 0 ≤ _), (by decide : 8 + 0 ≤ _)⟩)
  dsimp only [Pt.U, Pt.locs, Pt.cells, Pt.slots] at X12 l12 y12 z12 st12 hQ12
  subst l12 y12 z12
  obtain ⟨rfl, N12q, eq12⟩ := hQ12
  have N12 := Fr.app N10 N12q
  obtain ⟨T13, X13, e13, st13⟩ := getS2 X12 hx hZ hown (host := "") (Or.inl (hw _ (List.mem_of_getElem? (i := 59) rfl))) Via.refl eq12 (own_stak1 ((own_stak0 S_SEQUENCE Kc7).ext E8) Kc9 E_b8) (g := (mkF m 82 #[.val (.int p1), .val (.int p2), .val (.int p3), .val (.int p4), .val (.ref w_NATIVE), .val (.ref w_d), .val (.ref r7), .val (.ref b8), .val (.ref w_SEQUENCE), .unset] [])) rfl (hb hby at_82)
  obtain ⟨cq14, kq14, q14a, q14b, q14c⟩ := isOf hZ e13 (E_b8.keep Kc9)
  obtain ⟨_, _, ⟨T14, L14, k14, n14⟩, -, X14, ⟨Lc14, hQ14, l14, y14, z14⟩, st14⟩ := X13.virtualBack hx (y := (⟨"com/example/hydrate/hydrate/mapping/IdGenerator", "kind", "()Lcom/example/hydrate/hydrate/mapping/IdGenerator$Kind;"⟩ : MethodName)) (z := (⟨"com/example/hydrate/hydrate/mapping/IdGenerator", "kind", "()Lcom/example/hydrate/hydrate/mapping/IdGenerator$Kind;"⟩ : MethodName)) hown (mvT hZ (hw _ (List.mem_of_getElem? (i := 42) rfl))) (mvT hZ (hw _ (List.mem_of_getElem? (i := 43) rfl))) (notFace_of_selects (args := #[]) (mvT hZ (hw _ (List.mem_of_getElem? (i := 45) rfl)))) (mvT hZ (hw _ (List.mem_of_getElem? (i := 45) rfl))) (mvT hZ (hw _ (List.mem_of_getElem? (i := 44) rfl))) (by decide) (backOf (W := 0) (rm7 l Z a0 hw [] b8 w_NATIVE T9.heap n0 (Nat.le_trans (Nat.le_trans (Nat.le_trans Z0 Kc7.1) E8.1) Kc9.1) Fk9) hZ (hw _ (List.mem_of_getElem? (i := 46) rfl)) (hw _ (List.mem_of_getElem? (i := 16) rfl)) (by decide) (by decide)) q14a q14c (g := (mkF m 104 #[.val (.int p1), .val (.int p2), .val (.int p3), .val (.int p4), .val (.ref w_NATIVE), .val (.ref w_d), .val (.ref r7), .val (.ref b8), .val (.ref w_SEQUENCE), .val (.ref w_SEQUENCE)] [(.ref b8)])) rfl (by rw [hml]; rfl) (Steps.refl _) (argsL := []) (rest := []) (lenOf pd_0_5 rfl) rfl (by show 2 * 0 + _ ≤ _; exact Nat.le_of_eq rfl) (hb hby at_104) (fun _ _ => ⟨rfl, e13, (by decide : 3 + 0 ≤ _), (by decide : 8 + 0 ≤ _)⟩)
  dsimp only [Pt.U, Pt.locs, Pt.cells, Pt.slots] at X14 l14 y14 z14 st14 hQ14
  subst l14 y14 z14
  obtain ⟨rfl, N14q, eq14⟩ := hQ14
  have N14 := Fr.app N12 N14q
  obtain ⟨fs, hr, hrun, hended, hW, hsame⟩ := X14.leave (v := some (.int (1 : Int32))) (fun h => by rw [Bd.returns] at h; cases h)
  refine ⟨_, _, pre0 _ ?_, hrun, hended, _, _, rfl, ?_, ⟨_, rfl⟩, hW, hsame.mono (by decide) (by decide)⟩
  · show Steps p.tables e below (s₁.setTop (mkF m 0 #[.val (.int p1), .val (.int p2), .val (.int p3), .val (.int p4), .unset, .unset, .unset, .unset, .unset, .unset] [])) _
    refine XS.iloadN X0.here hx rfl (hb hby at_0) rfl ?_
    show Steps p.tables e below (s₁.setTop (mkF m 1 #[.val (.int p1), .val (.int p2), .val (.int p3), .val (.int p4), .unset, .unset, .unset, .unset, .unset, .unset] [(.int p1)])) _
    refine st5 _ ?_
    show Steps p.tables e below (T5.setTop (mkF m 4 #[.val (.int p1), .val (.int p2), .val (.int p3), .val (.int p4), .unset, .unset, .unset, .unset, .unset, .unset] [(.ref w_NATIVE)])) _
    refine XS.astore X5.here hx rfl (hb hby at_4) rfl rfl (l' := #[.val (.int p1), .val (.int p2), .val (.int p3), .val (.int p4), .val (.ref w_NATIVE), .unset, .unset, .unset, .unset, .unset]) rfl ?_
    show Steps p.tables e below (T5.setTop (mkF m 6 #[.val (.int p1), .val (.int p2), .val (.int p3), .val (.int p4), .val (.ref w_NATIVE), .unset, .unset, .unset, .unset, .unset] [])) _
    refine XS.iloadN X5.here hx rfl (hb hby at_6) rfl ?_
    show Steps p.tables e below (T5.setTop (mkF m 7 #[.val (.int p1), .val (.int p2), .val (.int p3), .val (.int p4), .val (.ref w_NATIVE), .unset, .unset, .unset, .unset, .unset] [(.int p2)])) _
    refine st6 _ ?_
    show Steps p.tables e below (T6.setTop (mkF m 10 #[.val (.int p1), .val (.int p2), .val (.int p3), .val (.int p4), .val (.ref w_NATIVE), .unset, .unset, .unset, .unset, .unset] [(.ref w_d)])) _
    refine XS.astore X6.here hx rfl (hb hby at_10) rfl rfl (l' := #[.val (.int p1), .val (.int p2), .val (.int p3), .val (.int p4), .val (.ref w_NATIVE), .val (.ref w_d), .unset, .unset, .unset, .unset]) rfl ?_
    show Steps p.tables e below (T6.setTop (mkF m 12 #[.val (.int p1), .val (.int p2), .val (.int p3), .val (.int p4), .val (.ref w_NATIVE), .val (.ref w_d), .unset, .unset, .unset, .unset] [])) _
    refine XS.iloadN X6.here hx rfl (hb hby at_12) rfl ?_
    show Steps p.tables e below (T6.setTop (mkF m 13 #[.val (.int p1), .val (.int p2), .val (.int p3), .val (.int p4), .val (.ref w_NATIVE), .val (.ref w_d), .unset, .unset, .unset, .unset] [(.int p4)])) _
    refine XS.bipush X6.here hx rfl (hb hby at_13) ?_
    show Steps p.tables e below (T6.setTop (mkF m 15 #[.val (.int p1), .val (.int p2), .val (.int p3), .val (.int p4), .val (.ref w_NATIVE), .val (.ref w_d), .unset, .unset, .unset, .unset] [(.int (8 : Int32)), (.int p4)])) _
    refine XS.iushr X6.here hx rfl (hb hby at_15) rfl ?_
    show Steps p.tables e below (T6.setTop (mkF m 16 #[.val (.int p1), .val (.int p2), .val (.int p3), .val (.int p4), .val (.ref w_NATIVE), .val (.ref w_d), .unset, .unset, .unset, .unset] [(.int ((p4.toUInt32 >>> ((8 : Int32) &&& 31).toUInt32).toInt32))])) _
    refine XS.iconst X6.here hx rfl (hb hby at_16) ?_
    show Steps p.tables e below (T6.setTop (mkF m 17 #[.val (.int p1), .val (.int p2), .val (.int p3), .val (.int p4), .val (.ref w_NATIVE), .val (.ref w_d), .unset, .unset, .unset, .unset] [(.int (1 : Int32)), (.int ((p4.toUInt32 >>> ((8 : Int32) &&& 31).toUInt32).toInt32))])) _
    refine XS.iand X6.here hx rfl (hb hby at_17) rfl ?_
    show Steps p.tables e below (T6.setTop (mkF m 18 #[.val (.int p1), .val (.int p2), .val (.int p3), .val (.int p4), .val (.ref w_NATIVE), .val (.ref w_d), .unset, .unset, .unset, .unset] [(.int (((p4.toUInt32 >>> ((8 : Int32) &&& 31).toUInt32).toInt32) &&& (1 : Int32)))])) _
    refine XS.ifNo X6.here hx rfl (hb hby at_18) rfl ((if0 _ _).trans (feq hc18).1) ?_
    show Steps p.tables e below (T6.setTop (mkF m 21 #[.val (.int p1), .val (.int p2), .val (.int p3), .val (.int p4), .val (.ref w_NATIVE), .val (.ref w_d), .unset, .unset, .unset, .unset] [])) _
    refine XS.iloadN X6.here hx rfl (hb hby at_21) rfl ?_
    show Steps p.tables e below (T6.setTop (mkF m 22 #[.val (.int p1), .val (.int p2), .val (.int p3), .val (.int p4), .val (.ref w_NATIVE), .val (.ref w_d), .unset, .unset, .unset, .unset] [(.int p4)])) _
    refine XS.sipush X6.here hx rfl (hb hby at_22) ?_
    show Steps p.tables e below (T6.setTop (mkF m 25 #[.val (.int p1), .val (.int p2), .val (.int p3), .val (.int p4), .val (.ref w_NATIVE), .val (.ref w_d), .unset, .unset, .unset, .unset] [(.int (255 : Int32)), (.int p4)])) _
    refine XS.iand X6.here hx rfl (hb hby at_25) rfl ?_
    show Steps p.tables e below (T6.setTop (mkF m 26 #[.val (.int p1), .val (.int p2), .val (.int p3), .val (.int p4), .val (.ref w_NATIVE), .val (.ref w_d), .unset, .unset, .unset, .unset] [(.int (p4 &&& (255 : Int32)))])) _
    refine XS.i2c X6.here hx rfl (hb hby at_26) rfl ?_
    show Steps p.tables e below (T6.setTop (mkF m 27 #[.val (.int p1), .val (.int p2), .val (.int p3), .val (.int p4), .val (.ref w_NATIVE), .val (.ref w_d), .unset, .unset, .unset, .unset] [(.int ((p4 &&& (255 : Int32)).toUInt32.toUInt16.toUInt32.toInt32))])) _
    refine st7 _ ?_
    show Steps p.tables e below (T7.setTop (mkF m 30 #[.val (.int p1), .val (.int p2), .val (.int p3), .val (.int p4), .val (.ref w_NATIVE), .val (.ref w_d), .unset, .unset, .unset, .unset] [(.ref r7)])) _
    refine XS.goto X7.here hx rfl (pc0 := 30) (pc' := 34) rfl (hb hby at_30) (by decide) (by decide) ?_
    show Steps p.tables e below (T7.setTop (mkF m 34 #[.val (.int p1), .val (.int p2), .val (.int p3), .val (.int p4), .val (.ref w_NATIVE), .val (.ref w_d), .unset, .unset, .unset, .unset] [(.ref r7)])) _
    refine XS.astore X7.here hx rfl (hb hby at_34) rfl rfl (l' := #[.val (.int p1), .val (.int p2), .val (.int p3), .val (.int p4), .val (.ref w_NATIVE), .val (.ref w_d), .val (.ref r7), .unset, .unset, .unset]) rfl ?_
    show Steps p.tables e below (T7.setTop (mkF m 36 #[.val (.int p1), .val (.int p2), .val (.int p3), .val (.int p4), .val (.ref w_NATIVE), .val (.ref w_d), .val (.ref r7), .unset, .unset, .unset] [])) _
    refine st8 _ ?_
    show Steps p.tables e below (T8.setTop (mkF m 39 #[.val (.int p1), .val (.int p2), .val (.int p3), .val (.int p4), .val (.ref w_NATIVE), .val (.ref w_d), .val (.ref r7), .unset, .unset, .unset] [(.ref b8)])) _
    refine XS.dup X8.here hx rfl (hb hby at_39) rfl rfl ?_
    show Steps p.tables e below (T8.setTop (mkF m 40 #[.val (.int p1), .val (.int p2), .val (.int p3), .val (.int p4), .val (.ref w_NATIVE), .val (.ref w_d), .val (.ref r7), .unset, .unset, .unset] [(.ref b8), (.ref b8)])) _
    refine XS.aload X8.here hx rfl (hb hby at_40) rfl rfl ?_
    show Steps p.tables e below (T8.setTop (mkF m 42 #[.val (.int p1), .val (.int p2), .val (.int p3), .val (.int p4), .val (.ref w_NATIVE), .val (.ref w_d), .val (.ref r7), .unset, .unset, .unset] [(.ref w_NATIVE), (.ref b8), (.ref b8)])) _
    refine XS.aload X8.here hx rfl (hb hby at_42) rfl rfl ?_
    show Steps p.tables e below (T8.setTop (mkF m 44 #[.val (.int p1), .val (.int p2), .val (.int p3), .val (.int p4), .val (.ref w_NATIVE), .val (.ref w_d), .val (.ref r7), .unset, .unset, .unset] [(.ref r7), (.ref w_NATIVE), (.ref b8), (.ref b8)])) _
    refine XS.iloadN X8.here hx rfl (hb hby at_44) rfl ?_
    show Steps p.tables e below (T8.setTop (mkF m 45 #[.val (.int p1), .val (.int p2), .val (.int p3), .val (.int p4), .val (.ref w_NATIVE), .val (.ref w_d), .val (.ref r7), .unset, .unset, .unset] [(.int p3), (.ref r7), (.ref w_NATIVE), (.ref b8), (.ref b8)])) _
    refine st9.trans ?_
    show Steps p.tables e below (T9.setTop (mkF m 48 #[.val (.int p1), .val (.int p2), .val (.int p3), .val (.int p4), .val (.ref w_NATIVE), .val (.ref w_d), .val (.ref r7), .unset, .unset, .unset] [(.ref b8)])) _
    refine XS.astore X9.here hx rfl (hb hby at_48) rfl rfl (l' := #[.val (.int p1), .val (.int p2), .val (.int p3), .val (.int p4), .val (.ref w_NATIVE), .val (.ref w_d), .val (.ref r7), .val (.ref b8), .unset, .unset]) rfl ?_
    show Steps p.tables e below (T9.setTop (mkF m 50 #[.val (.int p1), .val (.int p2), .val (.int p3), .val (.int p4), .val (.ref w_NATIVE), .val (.ref w_d), .val (.ref r7), .val (.ref b8), .unset, .unset] [])) _
    refine XS.aload X9.here hx rfl (hb hby at_50) rfl rfl ?_
    show Steps p.tables e below (T9.setTop (mkF m 52 #[.val (.int p1), .val (.int p2), .val (.int p3), .val (.int p4), .val (.ref w_NATIVE), .val (.ref w_d), .val (.ref r7), .val (.ref b8), .unset, .unset] [(.ref b8)])) _
    refine XS.aload X9.here hx rfl (hb hby at_52) rfl rfl ?_
    show Steps p.tables e below (T9.setTop (mkF m 54 #[.val (.int p1), .val (.int p2), .val (.int p3), .val (.int p4), .val (.ref w_NATIVE), .val (.ref w_d), .val (.ref r7), .val (.ref b8), .unset, .unset] [(.ref w_d), (.ref b8)])) _
    refine st10.trans ?_
    show Steps p.tables e below (T10.setTop (mkF m 57 #[.val (.int p1), .val (.int p2), .val (.int p3), .val (.int p4), .val (.ref w_NATIVE), .val (.ref w_d), .val (.ref r7), .val (.ref b8), .unset, .unset] [(.ref w_SEQUENCE)])) _
    refine XS.astore X10.here hx rfl (hb hby at_57) rfl rfl (l' := #[.val (.int p1), .val (.int p2), .val (.int p3), .val (.int p4), .val (.ref w_NATIVE), .val (.ref w_d), .val (.ref r7), .val (.ref b8), .val (.ref w_SEQUENCE), .unset]) rfl ?_
    show Steps p.tables e below (T10.setTop (mkF m 59 #[.val (.int p1), .val (.int p2), .val (.int p3), .val (.int p4), .val (.ref w_NATIVE), .val (.ref w_d), .val (.ref r7), .val (.ref b8), .val (.ref w_SEQUENCE), .unset] [])) _
    refine XS.aload X10.here hx rfl (hb hby at_59) rfl rfl ?_
    show Steps p.tables e below (T10.setTop (mkF m 61 #[.val (.int p1), .val (.int p2), .val (.int p3), .val (.int p4), .val (.ref w_NATIVE), .val (.ref w_d), .val (.ref r7), .val (.ref b8), .val (.ref w_SEQUENCE), .unset] [(.ref w_NATIVE)])) _
    refine st11 _ ?_
    show Steps p.tables e below (T11.setTop (mkF m 64 #[.val (.int p1), .val (.int p2), .val (.int p3), .val (.int p4), .val (.ref w_NATIVE), .val (.ref w_d), .val (.ref r7), .val (.ref b8), .val (.ref w_SEQUENCE), .unset] [(.ref w_NATIVE), (.ref w_NATIVE)])) _
    refine Jvm.RoadKit.acmp (g := (mkF m 64 #[.val (.int p1), .val (.int p2), .val (.int p3), .val (.int p4), .val (.ref w_NATIVE), .val (.ref w_d), .val (.ref r7), .val (.ref b8), .val (.ref w_SEQUENCE), .unset] [(.ref w_NATIVE), (.ref w_NATIVE)])) X11 hx rfl rfl rfl (pc0 := 64) (pc' := 74) (same := true) rfl (hb hby at_64) rfl (decide_eq_true rfl) (by decide) (by decide) ?_
    show Steps p.tables e below (T11.setTop (mkF m 74 #[.val (.int p1), .val (.int p2), .val (.int p3), .val (.int p4), .val (.ref w_NATIVE), .val (.ref w_d), .val (.ref r7), .val (.ref b8), .val (.ref w_SEQUENCE), .unset] [])) _
    refine XS.aload X11.here hx rfl (hb hby at_74) rfl rfl ?_
    show Steps p.tables e below (T11.setTop (mkF m 76 #[.val (.int p1), .val (.int p2), .val (.int p3), .val (.int p4), .val (.ref w_NATIVE), .val (.ref w_d), .val (.ref r7), .val (.ref b8), .val (.ref w_SEQUENCE), .unset] [(.ref w_d)])) _
    refine st12.trans ?_
    show Steps p.tables e below (T12.setTop (mkF m 79 #[.val (.int p1), .val (.int p2), .val (.int p3), .val (.int p4), .val (.ref w_NATIVE), .val (.ref w_d), .val (.ref r7), .val (.ref b8), .val (.ref w_SEQUENCE), .unset] [(.int (1 : Int32))])) _
    refine XS.ifNo X12.here hx rfl (hb hby at_79) rfl ((if0 _ _).trans (feq hc79).1) ?_
    show Steps p.tables e below (T12.setTop (mkF m 82 #[.val (.int p1), .val (.int p2), .val (.int p3), .val (.int p4), .val (.ref w_NATIVE), .val (.ref w_d), .val (.ref r7), .val (.ref b8), .val (.ref w_SEQUENCE), .unset] [])) _
    refine st13 _ ?_
    show Steps p.tables e below (T13.setTop (mkF m 85 #[.val (.int p1), .val (.int p2), .val (.int p3), .val (.int p4), .val (.ref w_NATIVE), .val (.ref w_d), .val (.ref r7), .val (.ref b8), .val (.ref w_SEQUENCE), .unset] [(.ref w_SEQUENCE)])) _
    refine XS.astore X13.here hx rfl (hb hby at_85) rfl rfl (l' := #[.val (.int p1), .val (.int p2), .val (.int p3), .val (.int p4), .val (.ref w_NATIVE), .val (.ref w_d), .val (.ref r7), .val (.ref b8), .val (.ref w_SEQUENCE), .val (.ref w_SEQUENCE)]) rfl ?_
    show Steps p.tables e below (T13.setTop (mkF m 87 #[.val (.int p1), .val (.int p2), .val (.int p3), .val (.int p4), .val (.ref w_NATIVE), .val (.ref w_d), .val (.ref r7), .val (.ref b8), .val (.ref w_SEQUENCE), .val (.ref w_SEQUENCE)] [])) _
    refine XS.goto X13.here hx rfl (pc0 := 87) (pc' := 95) rfl (hb hby at_87) (by decide) (by decide) ?_
    show Steps p.tables e below (T13.setTop (mkF m 95 #[.val (.int p1), .val (.int p2), .val (.int p3), .val (.int p4), .val (.ref w_NATIVE), .val (.ref w_d), .val (.ref r7), .val (.ref b8), .val (.ref w_SEQUENCE), .val (.ref w_SEQUENCE)] [])) _
    refine XS.aload X13.here hx rfl (hb hby at_95) rfl rfl ?_
    show Steps p.tables e below (T13.setTop (mkF m 97 #[.val (.int p1), .val (.int p2), .val (.int p3), .val (.int p4), .val (.ref w_NATIVE), .val (.ref w_d), .val (.ref r7), .val (.ref b8), .val (.ref w_SEQUENCE), .val (.ref w_SEQUENCE)] [(.ref w_SEQUENCE)])) _
    refine XS.aload X13.here hx rfl (hb hby at_97) rfl rfl ?_
    show Steps p.tables e below (T13.setTop (mkF m 99 #[.val (.int p1), .val (.int p2), .val (.int p3), .val (.int p4), .val (.ref w_NATIVE), .val (.ref w_d), .val (.ref r7), .val (.ref b8), .val (.ref w_SEQUENCE), .val (.ref w_SEQUENCE)] [(.ref w_SEQUENCE), (.ref w_SEQUENCE)])) _
    refine Jvm.RoadKit.acmp (g := (mkF m 99 #[.val (.int p1), .val (.int p2), .val (.int p3), .val (.int p4), .val (.ref w_NATIVE), .val (.ref w_d), .val (.ref r7), .val (.ref b8), .val (.ref w_SEQUENCE), .val (.ref w_SEQUENCE)] [(.ref w_SEQUENCE), (.ref w_SEQUENCE)])) X13 hx rfl rfl rfl (pc0 := 99) (pc' := 102) (same := true) rfl (hb hby at_99) rfl (decide_eq_true rfl) (by decide) (by decide) ?_
    show Steps p.tables e below (T13.setTop (mkF m 102 #[.val (.int p1), .val (.int p2), .val (.int p3), .val (.int p4), .val (.ref w_NATIVE), .val (.ref w_d), .val (.ref r7), .val (.ref b8), .val (.ref w_SEQUENCE), .val (.ref w_SEQUENCE)] [])) _
    refine XS.aload X13.here hx rfl (hb hby at_102) rfl rfl ?_
    show Steps p.tables e below (T13.setTop (mkF m 104 #[.val (.int p1), .val (.int p2), .val (.int p3), .val (.int p4), .val (.ref w_NATIVE), .val (.ref w_d), .val (.ref r7), .val (.ref b8), .val (.ref w_SEQUENCE), .val (.ref w_SEQUENCE)] [(.ref b8)])) _
    refine st14.trans ?_
    show Steps p.tables e below (T14.setTop (mkF m 107 #[.val (.int p1), .val (.int p2), .val (.int p3), .val (.int p4), .val (.ref w_NATIVE), .val (.ref w_d), .val (.ref r7), .val (.ref b8), .val (.ref w_SEQUENCE), .val (.ref w_SEQUENCE)] [(.ref w_NATIVE)])) _
    refine XS.aload X14.here hx rfl (hb hby at_107) rfl rfl ?_
    show Steps p.tables e below (T14.setTop (mkF m 109 #[.val (.int p1), .val (.int p2), .val (.int p3), .val (.int p4), .val (.ref w_NATIVE), .val (.ref w_d), .val (.ref r7), .val (.ref b8), .val (.ref w_SEQUENCE), .val (.ref w_SEQUENCE)] [(.ref w_NATIVE), (.ref w_NATIVE)])) _
    refine Jvm.RoadKit.acmp (g := (mkF m 109 #[.val (.int p1), .val (.int p2), .val (.int p3), .val (.int p4), .val (.ref w_NATIVE), .val (.ref w_d), .val (.ref r7), .val (.ref b8), .val (.ref w_SEQUENCE), .val (.ref w_SEQUENCE)] [(.ref w_NATIVE), (.ref w_NATIVE)])) X14 hx rfl rfl rfl (pc0 := 109) (pc' := 112) (same := true) rfl (hb hby at_109) rfl (decide_eq_true rfl) (by decide) (by decide) ?_
    show Steps p.tables e below (T14.setTop (mkF m 112 #[.val (.int p1), .val (.int p2), .val (.int p3), .val (.int p4), .val (.ref w_NATIVE), .val (.ref w_d), .val (.ref r7), .val (.ref b8), .val (.ref w_SEQUENCE), .val (.ref w_SEQUENCE)] [])) _
    refine XS.iconst X14.here hx rfl (hb hby at_112) ?_
    show Steps p.tables e below (T14.setTop (mkF m 113 #[.val (.int p1), .val (.int p2), .val (.int p3), .val (.int p4), .val (.ref w_NATIVE), .val (.ref w_d), .val (.ref r7), .val (.ref b8), .val (.ref w_SEQUENCE), .val (.ref w_SEQUENCE)] [(.int (1 : Int32))])) _
    refine XS.goto X14.here hx rfl (pc0 := 113) (pc' := 117) rfl (hb hby at_113) (by decide) (by decide) ?_
    show Steps p.tables e below (T14.setTop (mkF m 117 #[.val (.int p1), .val (.int p2), .val (.int p3), .val (.int p4), .val (.ref w_NATIVE), .val (.ref w_d), .val (.ref r7), .val (.ref b8), .val (.ref w_SEQUENCE), .val (.ref w_SEQUENCE)] [(.int (1 : Int32))])) _
    exact retN X14 hx (t := .boolean) Bd.returns (by simp) (hb hby at_117) hr
  · show QL (some (.int (1 : Int32))) n0 _ T14.heap _
    rw [eq14]
    exact ⟨rfl, N14⟩

set_option maxRecDepth 65536 in
set_option maxHeartbeats 40000000 in
theorem rm0_f2 (l : Launch) (Z : State) (a0 : Array Value) (hw : ∀ d ∈ tables_1, d.before a0 Z = true) (ws : List Jvm.Cond) (p1 : Int32) (p2 : Int32) (p3 : Int32) (p4 : Int32) (w_ASSIGNED : Addr) (w_SEQUENCE : Addr) (w_IDENTITY : Addr) (w_NATIVE : Addr) (w_H2 : Addr) (w_POSTGRESQL : Addr) (w_MARIADB : Addr) (w_d : Addr) (w_COMPACT_STRINGS : Int32) (h0 : Heap) (n0 : Nat) (Z0 : n0 ≤ h0.size) (S_ASSIGNED : Sta Z h0 "com/example/hydrate/hydrate/mapping/IdGenerator$Kind" "ASSIGNED" "Lcom/example/hydrate/hydrate/mapping/IdGenerator$Kind;" (.ref w_ASSIGNED)) (S_SEQUENCE : Sta Z h0 "com/example/hydrate/hydrate/mapping/IdGenerator$Kind" "SEQUENCE" "Lcom/example/hydrate/hydrate/mapping/IdGenerator$Kind;" (.ref w_SEQUENCE)) (S_IDENTITY : Sta Z h0 "com/example/hydrate/hydrate/mapping/IdGenerator$Kind" "IDENTITY" "Lcom/example/hydrate/hydrate/mapping/IdGenerator$Kind;" (.ref w_IDENTITY)) (S_NATIVE : Sta Z h0 "com/example/hydrate/hydrate/mapping/IdGenerator$Kind" "NATIVE" "Lcom/example/hydrate/hydrate/mapping/IdGenerator$Kind;" (.ref w_NATIVE)) (S_H2 : Sta Z h0 "com/example/hydrate/hydrate/dialect/Dialect" "H2" "Lcom/example/hydrate/hydrate/dialect/Dialect;" (.ref w_H2)) (S_POSTGRESQL : Sta Z h0 "com/example/hydrate/hydrate/dialect/Dialect" "POSTGRESQL" "Lcom/example/hydrate/hydrate/dialect/Dialect;" (.ref w_POSTGRESQL)) (S_MARIADB : Sta Z h0 "com/example/hydrate/hydrate/dialect/Dialect" "MARIADB" "Lcom/example/hydrate/hydrate/dialect/Dialect;" (.ref w_MARIADB)) (E_w_d : Exa Z h0 w_d "com/example/hydrate/hydrate/dialect/Dialect$2") (hk : Kd (p1 &&& (3 : Int32)) w_NATIVE w_ASSIGNED w_SEQUENCE w_IDENTITY w_NATIVE) (hd : Dl (HMod.hMod (p2 &&& (2147483647 : Int32)) (3 : Int32)) w_d w_H2 w_POSTGRESQL w_MARIADB) (hcs : ¬ (w_COMPACT_STRINGS = (0 : Int32))) (S_COMPACT_STRINGS : Sta Z h0 "java/lang/String" "COMPACT_STRINGS" "Z" (.int w_COMPACT_STRINGS)) (F_nativeSequences_w_d : Fld Z h0 w_d "com/example/hydrate/hydrate/dialect/Dialect" "nativeSequences" "Z" (.int (1 : Int32))) (hc18 : ¬ ((((p4.toUInt32 >>> ((8 : Int32) &&& 31).toUInt32).toInt32) &&& (1 : Int32)) = (0 : Int32))) (hc79 : ¬ ((1 : Int32) = (0 : Int32))) :
    MetFree l x (head1 (Jvm.Cond.code x code maxLocals ret :: ws) room_1) (fun a U => a = #[(.int p1), (.int p2), (.int p3), (.int p4)] ∧ Z.Warmed39 U.vm ∧ U.heap = h0) (fun _ _ _ _ _ => True) (fun _ U o U' => ∃ v L, o = .returned v ∧ QL (some (.int (1 : Int32))) n0 v U'.heap L ∧ FrameEnd U o U' L room_1.cells room_1.slots) := by
  refine MetFree.of_bodySF (plainFor_of_name pn_0) hisR ?_
  intro p e s m args below meth c s₁ Bd hml0 hP hK
  obtain ⟨rfl, hZ, hh⟩ := hP
  have hx := Bd.exec
  have hby := Bd.bytes
  have hml : c.maxLocals = 10 := hml0
  have hown : s.vm.findClass "com/example/hydrate/hydrate/mapping/IdGeneratorOnPinLaw" = some m.cls := findClass_of_methodNamed Bd.named
  have hnm := (name_of_methodNamed Bd.named Bd.method).1
  have X0 : Stand p l e room_1 s m #[(.int p1), (.int p2), (.int p3), (.int p4)] below meth c s₁ [] 0 0 := Stand.of_body Bd
  have e0 : s₁.heap = h0 := by rw [← hh, Bd.state]; rfl
  have N0 := Fr.nil n0
  have pre0 : ∀ t, Steps p.tables e below (s₁.setTop (mkF m 0 #[.val (.int p1), .val (.int p2), .val (.int p3), .val (.int p4), .unset, .unset, .unset, .unset, .unset, .unset] [])) t → Steps p.tables e below (s₁.setTop (entryFrame m #[(.int p1), (.int p2), (.int p3), (.int p4)] maxLocals)) t := fun t k => castTop (ef_0 m p1 p2 p3 p4) k
  obtain ⟨_, _, ⟨T5, L5, k5, n5⟩, -, X5, ⟨Lc5, hQ5, l5, y5, z5⟩, st5⟩ := Jvm.LawKit.callS X0 hx (y := (⟨"com/example/hydrate/hydrate/mapping/IdGeneratorOnPinLaw", "kindOf", "(I)Lcom/example/hydrate/hydrate/mapping/IdGenerator$Kind;"⟩ : MethodName)) hown (mvT hZ (hw _ (List.mem_of_getElem? (i := 0) rfl))) (mvT hZ (hw _ (List.mem_of_getElem? (i := 1) rfl))) (mvT hZ (hw _ (List.mem_of_getElem? (i := 2) rfl))) (mvT hZ (hw _ (List.mem_of_getElem? (i := 3) rfl))) (by decide) (backOf (W := 0) (rm1 l Z a0 hw [] p1 w_ASSIGNED w_SEQUENCE w_IDENTITY w_NATIVE w_NATIVE h0 n0 Z0 S_ASSIGNED S_SEQUENCE S_IDENTITY S_NATIVE hk) hZ (hw _ (List.mem_of_getElem? (i := 3) rfl)) (hw _ (List.mem_of_getElem? (i := 2) rfl)) (by decide) (by decide)) (g := (mkF m 1 #[.val (.int p1), .val (.int p2), .val (.int p3), .val (.int p4), .unset, .unset, .unset, .unset, .unset, .unset] [(.int p1)])) rfl (by rw [hml]; rfl) (argsL := [(.int p1)]) (rest := []) (lenOf pd_0_0 rfl) rfl (by show 2 * 0 + _ ≤ _; exact Nat.le_of_eq rfl) (hb hby at_1) (fun _ _ => ⟨rfl, e0, (by decide : 0 + 0 ≤ _), (by decide : 0 + 0 ≤ _)⟩)
  dsimp only [Pt.U, Pt.locs, Pt.cells, Pt.slots] at X5 l5 y5 z5 st5 hQ5
  subst l5 y5 z5
  obtain ⟨rfl, N5q, eq5⟩ := hQ5
  have N5 := Fr.app N0 N5q
  obtain ⟨_, _, ⟨T6, L6, k6, n6⟩, -, X6, ⟨Lc6, hQ6, l6, y6, z6⟩, st6⟩ := Jvm.LawKit.callS X5 hx (y := (⟨"com/example/hydrate/hydrate/mapping/IdGeneratorOnPinLaw", "dialectOf", "(I)Lcom/example/hydrate/hydrate/dialect/Dialect;"⟩ : MethodName)) hown (mvT hZ (hw _ (List.mem_of_getElem? (i := 7) rfl))) (mvT hZ (hw _ (List.mem_of_getElem? (i := 8) rfl))) (mvT hZ (hw _ (List.mem_of_getElem? (i := 2) rfl))) (mvT hZ (hw _ (List.mem_of_getElem? (i := 9) rfl))) (by decide) (backOf (W := 0) (rm2 l Z a0 hw [] p2 w_H2 w_POSTGRESQL w_MARIADB w_d h0 n0 Z0 S_H2 S_POSTGRESQL S_MARIADB hd) hZ (hw _ (List.mem_of_getElem? (i := 9) rfl)) (hw _ (List.mem_of_getElem? (i := 2) rfl)) (by decide) (by decide)) (g := (mkF m 7 #[.val (.int p1), .val (.int p2), .val (.int p3), .val (.int p4), .val (.ref w_NATIVE), .unset, .unset, .unset, .unset, .unset] [(.int p2)])) rfl (by rw [hml]; rfl) (argsL := [(.int p2)]) (rest := []) (lenOf pd_0_1 rfl) rfl (by show 2 * 0 + _ ≤ _; exact Nat.le_of_eq rfl) (hb hby at_7) (fun _ _ => ⟨rfl, eq5, (by decide : 0 + 0 ≤ _), (by decide : 0 + 0 ≤ _)⟩)
  dsimp only [Pt.U, Pt.locs, Pt.cells, Pt.slots] at X6 l6 y6 z6 st6 hQ6
  subst l6 y6 z6
  obtain ⟨rfl, N6q, eq6⟩ := hQ6
  have N6 := Fr.app N5 N6q
  obtain ⟨_, _, ⟨T7, L7, k7, n7⟩, -, X7, ⟨Lc7, hQ7, l7, y7, z7⟩, st7⟩ := Jvm.LawKit.callS X6 hx (y := (⟨"java/lang/String", "valueOf", "(C)Ljava/lang/String;"⟩ : MethodName)) hown (mvT hZ (hw _ (List.mem_of_getElem? (i := 62) rfl))) (mvT hZ (hw _ (List.mem_of_getElem? (i := 63) rfl))) (mvT hZ (hw _ (List.mem_of_getElem? (i := 64) rfl))) (mvT hZ (hw _ (List.mem_of_getElem? (i := 65) rfl))) (by decide) (backOf (W := 0) (rm9 l Z a0 hw [] (((p4 &&& (255 : Int32)).toUInt32.toUInt16.toUInt32.toInt32)) w_COMPACT_STRINGS h0 n0 Z0 (own_char p4) S_COMPACT_STRINGS hcs (by decide)) hZ (hw _ (List.mem_of_getElem? (i := 65) rfl)) (hw _ (List.mem_of_getElem? (i := 64) rfl)) (by decide) (by decide)) (g := (mkF m 27 #[.val (.int p1), .val (.int p2), .val (.int p3), .val (.int p4), .val (.ref w_NATIVE), .val (.ref w_d), .unset, .unset, .unset, .unset] [(.int ((p4 &&& (255 : Int32)).toUInt32.toUInt16.toUInt32.toInt32))])) rfl (by rw [hml]; rfl) (argsL := [(.int ((p4 &&& (255 : Int32)).toUInt32.toUInt16.toUInt32.toInt32))]) (rest := []) (lenOf pd_0_7 rfl) rfl (by show 2 * 0 + _ ≤ _; exact Nat.le_of_eq rfl) (hb hby at_27) (fun _ _ => ⟨rfl, eq6, (by decide : 0 + 2 ≤ _), (by decide : 0 + 5 ≤ _)⟩)
  dsimp only [Pt.U, Pt.locs, Pt.cells, Pt.slots] at X7 l7 y7 z7 st7 hQ7
  subst l7 y7 z7
  obtain ⟨r7, rfl, gr7, sr7, N7q, Kc7⟩ := hQ7
  have N7 := Fr.app N6 N7q
  have K7 : Keep h0 T7.heap [] := (Keep.refl h0 []).trans Kc7 all0
  obtain ⟨T8, h8, X8, e8, E8, A8, D8, -, st8⟩ := newO X7 hx hZ hown (hw _ (List.mem_of_getElem? (i := 14) rfl)) (hw _ (List.mem_of_getElem? (i := 15) rfl)) (hw _ (List.mem_of_getElem? (i := 16) rfl)) rfl (g := (mkF m 36 #[.val (.int p1), .val (.int p2), .val (.int p3), .val (.int p4), .val (.ref w_NATIVE), .val (.ref w_d), .val (.ref r7), .unset, .unset, .unset] [])) rfl (hb hby at_36) (by decide) (by decide)
  obtain ⟨b8, g8⟩ : ∃ z, z = T7.heap.size := ⟨_, rfl⟩      -- the fresh object's address
  rw [← g8] at A8 D8 st8      -- A8 : Exa Z h8 b8 "com/example/hydrate/hydrate/mapping/IdGenerator"; E8 : Ext T7.heap h8 (carries every older fact: .ext E8)
  have F_kind_b8 : Fld Z h8 b8 "com/example/hydrate/hydrate/mapping/IdGenerator" "kind" "Lcom/example/hydrate/hydrate/mapping/IdGenerator$Kind;" .null := D8 (Or.inr (hw _ (List.mem_of_getElem? (i := 29) rfl))) (ty := (.object "com/example/hydrate/hydrate/mapping/IdGenerator$Kind")) (by decide)
  have F_sequence_b8 : Fld Z h8 b8 "com/example/hydrate/hydrate/mapping/IdGenerator" "sequence" "Ljava/lang/String;" .null := D8 (Or.inr (hw _ (List.mem_of_getElem? (i := 31) rfl))) (ty := (.object "java/lang/String")) (by decide)
  have F_increment_b8 : Fld Z h8 b8 "com/example/hydrate/hydrate/mapping/IdGenerator" "increment" "I" (.int (0 : Int32)) := D8 (Or.inr (hw _ (List.mem_of_getElem? (i := 33) rfl))) (ty := .int) (by decide)
  have E_b8 := A8
  have g_b8 : n0 ≤ b8 := Nat.le_trans (Nat.le_trans Z0 Kc7.1) (Nat.le_of_eq g8.symm)
  have sz_b8 : h0.size ≤ b8 := (Nat.le_trans K7.1 (Nat.le_of_eq g8.symm))
  have K8 : Keep h0 h8 [] := K7.ext E8
  obtain ⟨_, _, ⟨T9, L9, k9, n9⟩, -, X9, ⟨Lc9, hQ9, l9, y9, z9⟩, st9⟩ := X8.specialBack hx (y := (⟨"com/example/hydrate/hydrate/mapping/IdGenerator", "<init>", "(Lcom/example/hydrate/hydrate/mapping/IdGenerator$Kind;Ljava/lang/String;I)V"⟩ : MethodName)) rfl hown (mvT hZ (hw _ (List.mem_of_getElem? (i := 17) rfl))) (mvT hZ (hw _ (List.mem_of_getElem? (i := 18) rfl))) (mvT hZ (hw _ (List.mem_of_getElem? (i := 19) rfl))) (by decide) (backOf (W := 1) (rm3 l Z a0 hw [] b8 w_NATIVE r7 p3 .null .null ((.int (0 : Int32))) h8 n0 (Nat.le_trans (Nat.le_trans Z0 Kc7.1) E8.1) E_b8 F_kind_b8 g_b8 F_sequence_b8 F_increment_b8) hZ (hw _ (List.mem_of_getElem? (i := 19) rfl)) (hw _ (List.mem_of_getElem? (i := 16) rfl)) (by decide) (by decide)) (g := (mkF m 45 #[.val (.int p1), .val (.int p2), .val (.int p3), .val (.int p4), .val (.ref w_NATIVE), .val (.ref w_d), .val (.ref r7), .unset, .unset, .unset] [(.int p3), (.ref r7), (.ref w_NATIVE), (.ref b8), (.ref b8)])) rfl (by rw [hml]; rfl) (Steps.refl _) (a := b8) (argsL := [(.ref w_NATIVE), (.ref r7), (.int p3)]) (rest := [(.ref b8)]) (lenOf pd_0_2 rfl) rfl (by show 2 * 0 + _ ≤ _; exact Nat.le_of_eq rfl) (hb hby at_45) (fun _ _ => ⟨rfl, e8, (by decide : 3 + 0 ≤ _), (by decide : 8 + 0 ≤ _)⟩)
  dsimp only [Pt.U, Pt.locs, Pt.cells, Pt.slots] at X9 l9 y9 z9 st9 hQ9
  subst l9 y9 z9
  obtain ⟨rfl, N9q, Kc9, Ex9, Fk9, Fs9, Fi9⟩ := hQ9
  have N9 := Fr.app N7 N9q
  have K9 : Keep h0 T9.heap [] := K8.trans Kc9 (allS (Or.inr sz_b8) (all0))
  obtain ⟨cq10, kq10, q10a, q10b, q10c⟩ := isOf hZ rfl (E_b8.keep Kc9)
  obtain ⟨_, _, ⟨T10, L10, k10, n10⟩, -, X10, ⟨Lc10, hQ10, l10, y10, z10⟩, st10⟩ := X9.virtualBack hx (y := (⟨"com/example/hydrate/hydrate/mapping/IdGenerator", "on", "(Lcom/example/hydrate/hydrate/dialect/Dialect;)Lcom/example/hydrate/hydrate/mapping/IdGenerator$Kind;"⟩ : MethodName)) (z := (⟨"com/example/hydrate/hydrate/mapping/IdGenerator", "on", "(Lcom/example/hydrate/hydrate/dialect/Dialect;)Lcom/example/hydrate/hydrate/mapping/IdGenerator$Kind;"⟩ : MethodName)) hown (mvT hZ (hw _ (List.mem_of_getElem? (i := 34) rfl))) (mvT hZ (hw _ (List.mem_of_getElem? (i := 35) rfl))) (notFace_of_selects (args := #[]) (mvT hZ (hw _ (List.mem_of_getElem? (i := 37) rfl)))) (mvT hZ (hw _ (List.mem_of_getElem? (i := 37) rfl))) (mvT hZ (hw _ (List.mem_of_getElem? (i := 36) rfl))) (by decide) (backOf (W := 0) (rm6_2 l Z a0 hw [] b8 w_d w_ASSIGNED w_SEQUENCE w_IDENTITY w_NATIVE w_NATIVE T9.heap n0 (Nat.le_trans (Nat.le_trans (Nat.le_trans Z0 Kc7.1) E8.1) Kc9.1) (own_stak1 ((own_stak0 S_ASSIGNED Kc7).ext E8) Kc9 E_b8) (own_stak1 ((own_stak0 S_SEQUENCE Kc7).ext E8) Kc9 E_b8) (own_stak1 ((own_stak0 S_IDENTITY Kc7).ext E8) Kc9 E_b8) (own_stak1 ((own_stak0 S_NATIVE Kc7).ext E8) Kc9 E_b8) (((F_nativeSequences_w_d.keep Kc7 nin0).ext E8).keep Kc9 (ninS (Nat.ne_of_lt (Nat.lt_of_lt_of_le (E_w_d.keep Kc7).lt (Nat.le_of_eq g8.symm))) nin0)) Fk9 (((E_w_d.keep Kc7).ext E8).keep Kc9) rfl (by decide)) hZ (hw _ (List.mem_of_getElem? (i := 38) rfl)) (hw _ (List.mem_of_getElem? (i := 16) rfl)) (by decide) (by decide)) q10a q10c (g := (mkF m 54 #[.val (.int p1), .val (.int p2), .val (.int p3), .val (.int p4), .val (.ref w_NATIVE), .val (.ref w_d), .val (.ref r7), .val (.ref b8), .unset, .unset] [(.ref w_d), (.ref b8)])) rfl (by rw [hml]; rfl) (Steps.refl _) (argsL := [(.ref w_d)]) (rest := []) (lenOf pd_0_4 rfl) rfl (by show 2 * 0 + _ ≤ _; exact Nat.le_of_eq rfl) (hb hby at_54) (fun _ _ => ⟨rfl, rfl, (by decide : 3 + 0 ≤ _), (by decide : 8 + 0 ≤ _)⟩)
  dsimp only [Pt.U, Pt.locs, Pt.cells, Pt.slots] at X10 l10 y10 z10 st10 hQ10
  subst l10 y10 z10
  obtain ⟨rfl, N10q, eq10⟩ := hQ10
  have N10 := Fr.app N9 N10q
  obtain ⟨T11, X11, e11, st11⟩ := getS2 X10 hx hZ hown (host := "") (Or.inl (hw _ (List.mem_of_getElem? (i := 41) rfl))) Via.refl eq10 (own_stak1 ((own_stak0 S_NATIVE Kc7).ext E8) Kc9 E_b8) (g := (mkF m 61 #[.val (.int p1), .val (.int p2), .val (.int p3), .val (.int p4), .val (.ref w_NATIVE), .val (.ref w_d), .val (.ref r7), .val (.ref b8), .val (.ref w_SEQUENCE), .unset] [(.ref w_NATIVE)])) rfl (hb hby at_61)
  obtain ⟨cq12, kq12, q12a, q12b, q12c⟩ := isOf hZ e11 (((E_w_d.keep Kc7).ext E8).keep Kc9)
  obtain ⟨_, _, ⟨T12, L12, k12, n12⟩, -, X12, ⟨Lc12, hQ12, l12, y12, z12⟩, st12⟩ := X11.virtualBack hx (y := (⟨"com/example/hydrate/hydrate/dialect/Dialect", "nativeSequences", "()Z"⟩ : MethodName)) (z := (⟨"com/example/hydrate/hydrate/dialect/Dialect", "nativeSequences", "()Z"⟩ : MethodName)) hown (mvT hZ (hw _ (List.mem_of_getElem? (i := 58) rfl))) (mvT hZ (hw _ (List.mem_of_getElem? (i := 50) rfl))) (notFace_of_selects (args := #[]) (mvT hZ (hw _ (List.mem_of_getElem? (i := 52) rfl)))) (mvT hZ (hw _ (List.mem_of_getElem? (i := 52) rfl))) (mvT hZ (hw _ (List.mem_of_getElem? (i := 51) rfl))) (by decide) (backOf (W := 0) (rm8_1 l Z a0 hw [] w_d T9.heap n0 (Nat.le_trans (Nat.le_trans (Nat.le_trans Z0 Kc7.1) E8.1) Kc9.1) (((F_nativeSequences_w_d.keep Kc7 nin0).ext E8).keep Kc9 (ninS (Nat.ne_of_lt (Nat.lt_of_lt_of_le (E_w_d.keep Kc7).lt (Nat.le_of_eq g8.symm))) nin0))) hZ (hw _ (List.mem_of_getElem? (i := 53) rfl)) (hw _ (List.mem_of_getElem? (i := 12) rfl)) (by decide) (by decide)) q12a q12c (g := (mkF m 76 #[.val (.int p1), .val (.int p2), .val (.int p3), .val (.int p4), .val (.ref w_NATIVE), .val (.ref w_d), .val (.ref r7), .val (.ref b8), .val (.ref w_SEQUENCE), .unset] [(.ref w_d)])) rfl (by rw [hml]; rfl) (Steps.refl _) (argsL := []) (rest := []) (lenOf pd_0_6 rfl) rfl (by show 2 * 0 + _ ≤ _; exact Nat.le_of_eq rfl) (hb hby at_76) (fun _ _ => ⟨rfl, e11, (by decide : 3 + 0 ≤ _), (by decide : 8 + 0 ≤ _)⟩)
  dsimp only [Pt.U, Pt.locs, Pt.cells, Pt.slots] at X12 l12 y12 z12 st12 hQ12
  subst l12 y12 z12
  obtain ⟨rfl, N12q, eq12⟩ := hQ12
  have N12 := Fr.app N10 N12q
  obtain ⟨T13, X13, e13, st13⟩ := getS2 X12 hx hZ hown (host := "") (Or.inl (hw _ (List.mem_of_getElem? (i := 59) rfl))) Via.refl eq12 (own_stak1 ((own_stak0 S_SEQUENCE Kc7).ext E8) Kc9 E_b8) (g := (mkF m 82 #[.val (.int p1), .val (.int p2), .val (.int p3), .val (.int p4), .val (.ref w_NATIVE), .val (.ref w_d), .val (.ref r7), .val (.ref b8), .val (.ref w_SEQUENCE), .unset] [])) rfl (hb hby at_82)
  obtain ⟨cq14, kq14, q14a, q14b, q14c⟩ := isOf hZ e13 (E_b8.keep Kc9)
  obtain ⟨_, _, ⟨T14, L14, k14, n14⟩, -, X14, ⟨Lc14, hQ14, l14, y14, z14⟩, st14⟩ := X13.virtualBack hx (y := (⟨"com/example/hydrate/hydrate/mapping/IdGenerator", "kind", "()Lcom/example/hydrate/hydrate/mapping/IdGenerator$Kind;"⟩ : MethodName)) (z := (⟨"com/example/hydrate/hydrate/mapping/IdGenerator", "kind", "()Lcom/example/hydrate/hydrate/mapping/IdGenerator$Kind;"⟩ : MethodName)) hown (mvT hZ (hw _ (List.mem_of_getElem? (i := 42) rfl))) (mvT hZ (hw _ (List.mem_of_getElem? (i := 43) rfl))) (notFace_of_selects (args := #[]) (mvT hZ (hw _ (List.mem_of_getElem? (i := 45) rfl)))) (mvT hZ (hw _ (List.mem_of_getElem? (i := 45) rfl))) (mvT hZ (hw _ (List.mem_of_getElem? (i := 44) rfl))) (by decide) (backOf (W := 0) (rm7 l Z a0 hw [] b8 w_NATIVE T9.heap n0 (Nat.le_trans (Nat.le_trans (Nat.le_trans Z0 Kc7.1) E8.1) Kc9.1) Fk9) hZ (hw _ (List.mem_of_getElem? (i := 46) rfl)) (hw _ (List.mem_of_getElem? (i := 16) rfl)) (by decide) (by decide)) q14a q14c (g := (mkF m 104 #[.val (.int p1), .val (.int p2), .val (.int p3), .val (.int p4), .val (.ref w_NATIVE), .val (.ref w_d), .val (.ref r7), .val (.ref b8), .val (.ref w_SEQUENCE), .val (.ref w_SEQUENCE)] [(.ref b8)])) rfl (by rw [hml]; rfl) (Steps.refl _) (argsL := []) (rest := []) (lenOf pd_0_5 rfl) rfl (by show 2 * 0 + _ ≤ _; exact Nat.le_of_eq rfl) (hb hby at_104) (fun _ _ => ⟨rfl, e13, (by decide : 3 + 0 ≤ _), (by decide : 8 + 0 ≤ _)⟩)
  dsimp only [Pt.U, Pt.locs, Pt.cells, Pt.slots] at X14 l14 y14 z14 st14 hQ14
  subst l14 y14 z14
  obtain ⟨rfl, N14q, eq14⟩ := hQ14
  have N14 := Fr.app N12 N14q
  obtain ⟨fs, hr, hrun, hended, hW, hsame⟩ := X14.leave (v := some (.int (1 : Int32))) (fun h => by rw [Bd.returns] at h; cases h)
  refine ⟨_, _, pre0 _ ?_, hrun, hended, _, _, rfl, ?_, ⟨_, rfl⟩, hW, hsame.mono (by decide) (by decide)⟩
  · show Steps p.tables e below (s₁.setTop (mkF m 0 #[.val (.int p1), .val (.int p2), .val (.int p3), .val (.int p4), .unset, .unset, .unset, .unset, .unset, .unset] [])) _
    refine XS.iloadN X0.here hx rfl (hb hby at_0) rfl ?_
    show Steps p.tables e below (s₁.setTop (mkF m 1 #[.val (.int p1), .val (.int p2), .val (.int p3), .val (.int p4), .unset, .unset, .unset, .unset, .unset, .unset] [(.int p1)])) _
    refine st5 _ ?_
    show Steps p.tables e below (T5.setTop (mkF m 4 #[.val (.int p1), .val (.int p2), .val (.int p3), .val (.int p4), .unset, .unset, .unset, .unset, .unset, .unset] [(.ref w_NATIVE)])) _
    refine XS.astore X5.here hx rfl (hb hby at_4) rfl rfl (l' := #[.val (.int p1), .val (.int p2), .val (.int p3), .val (.int p4), .val (.ref w_NATIVE), .unset, .unset, .unset, .unset, .unset]) rfl ?_
    show Steps p.tables e below (T5.setTop (mkF m 6 #[.val (.int p1), .val (.int p2), .val (.int p3), .val (.int p4), .val (.ref w_NATIVE), .unset, .unset, .unset, .unset, .unset] [])) _
    refine XS.iloadN X5.here hx rfl (hb hby at_6) rfl ?_
    show Steps p.tables e below (T5.setTop (mkF m 7 #[.val (.int p1), .val (.int p2), .val (.int p3), .val (.int p4), .val (.ref w_NATIVE), .unset, .unset, .unset, .unset, .unset] [(.int p2)])) _
    refine st6 _ ?_
    show Steps p.tables e below (T6.setTop (mkF m 10 #[.val (.int p1), .val (.int p2), .val (.int p3), .val (.int p4), .val (.ref w_NATIVE), .unset, .unset, .unset, .unset, .unset] [(.ref w_d)])) _
    refine XS.astore X6.here hx rfl (hb hby at_10) rfl rfl (l' := #[.val (.int p1), .val (.int p2), .val (.int p3), .val (.int p4), .val (.ref w_NATIVE), .val (.ref w_d), .unset, .unset, .unset, .unset]) rfl ?_
    show Steps p.tables e below (T6.setTop (mkF m 12 #[.val (.int p1), .val (.int p2), .val (.int p3), .val (.int p4), .val (.ref w_NATIVE), .val (.ref w_d), .unset, .unset, .unset, .unset] [])) _
    refine XS.iloadN X6.here hx rfl (hb hby at_12) rfl ?_
    show Steps p.tables e below (T6.setTop (mkF m 13 #[.val (.int p1), .val (.int p2), .val (.int p3), .val (.int p4), .val (.ref w_NATIVE), .val (.ref w_d), .unset, .unset, .unset, .unset] [(.int p4)])) _
    refine XS.bipush X6.here hx rfl (hb hby at_13) ?_
    show Steps p.tables e below (T6.setTop (mkF m 15 #[.val (.int p1), .val (.int p2), .val (.int p3), .val (.int p4), .val (.ref w_NATIVE), .val (.ref w_d), .unset, .unset, .unset, .unset] [(.int (8 : Int32)), (.int p4)])) _
    refine XS.iushr X6.here hx rfl (hb hby at_15) rfl ?_
    show Steps p.tables e below (T6.setTop (mkF m 16 #[.val (.int p1), .val (.int p2), .val (.int p3), .val (.int p4), .val (.ref w_NATIVE), .val (.ref w_d), .unset, .unset, .unset, .unset] [(.int ((p4.toUInt32 >>> ((8 : Int32) &&& 31).toUInt32).toInt32))])) _
    refine XS.iconst X6.here hx rfl (hb hby at_16) ?_
    show Steps p.tables e below (T6.setTop (mkF m 17 #[.val (.int p1), .val (.int p2), .val (.int p3), .val (.int p4), .val (.ref w_NATIVE), .val (.ref w_d), .unset, .unset, .unset, .unset] [(.int (1 : Int32)), (.int ((p4.toUInt32 >>> ((8 : Int32) &&& 31).toUInt32).toInt32))])) _
    refine XS.iand X6.here hx rfl (hb hby at_17) rfl ?_
    show Steps p.tables e below (T6.setTop (mkF m 18 #[.val (.int p1), .val (.int p2), .val (.int p3), .val (.int p4), .val (.ref w_NATIVE), .val (.ref w_d), .unset, .unset, .unset, .unset] [(.int (((p4.toUInt32 >>> ((8 : Int32) &&& 31).toUInt32).toInt32) &&& (1 : Int32)))])) _
    refine XS.ifNo X6.here hx rfl (hb hby at_18) rfl ((if0 _ _).trans (feq hc18).1) ?_
    show Steps p.tables e below (T6.setTop (mkF m 21 #[.val (.int p1), .val (.int p2), .val (.int p3), .val (.int p4), .val (.ref w_NATIVE), .val (.ref w_d), .unset, .unset, .unset, .unset] [])) _
    refine XS.iloadN X6.here hx rfl (hb hby at_21) rfl ?_
    show Steps p.tables e below (T6.setTop (mkF m 22 #[.val (.int p1), .val (.int p2), .val (.int p3), .val (.int p4), .val (.ref w_NATIVE), .val (.ref w_d), .unset, .unset, .unset, .unset] [(.int p4)])) _
    refine XS.sipush X6.here hx rfl (hb hby at_22) ?_
    show Steps p.tables e below (T6.setTop (mkF m 25 #[.val (.int p1), .val (.int p2), .val (.int p3), .val (.int p4), .val (.ref w_NATIVE), .val (.ref w_d), .unset, .unset, .unset, .unset] [(.int (255 : Int32)), (.int p4)])) _
    refine XS.iand X6.here hx rfl (hb hby at_25) rfl ?_
    show Steps p.tables e below (T6.setTop (mkF m 26 #[.val (.int p1), .val (.int p2), .val (.int p3), .val (.int p4), .val (.ref w_NATIVE), .val (.ref w_d), .unset, .unset, .unset, .unset] [(.int (p4 &&& (255 : Int32)))])) _
    refine XS.i2c X6.here hx rfl (hb hby at_26) rfl ?_
    show Steps p.tables e below (T6.setTop (mkF m 27 #[.val (.int p1), .val (.int p2), .val (.int p3), .val (.int p4), .val (.ref w_NATIVE), .val (.ref w_d), .unset, .unset, .unset, .unset] [(.int ((p4 &&& (255 : Int32)).toUInt32.toUInt16.toUInt32.toInt32))])) _
    refine st7 _ ?_
    show Steps p.tables e below (T7.setTop (mkF m 30 #[.val (.int p1), .val (.int p2), .val (.int p3), .val (.int p4), .val (.ref w_NATIVE), .val (.ref w_d), .unset, .unset, .unset, .unset] [(.ref r7)])) _
    refine XS.goto X7.here hx rfl (pc0 := 30) (pc' := 34) rfl (hb hby at_30) (by decide) (by decide) ?_
    show Steps p.tables e below (T7.setTop (mkF m 34 #[.val (.int p1), .val (.int p2), .val (.int p3), .val (.int p4), .val (.ref w_NATIVE), .val (.ref w_d), .unset, .unset, .unset, .unset] [(.ref r7)])) _
    refine XS.astore X7.here hx rfl (hb hby at_34) rfl rfl (l' := #[.val (.int p1), .val (.int p2), .val (.int p3), .val (.int p4), .val (.ref w_NATIVE), .val (.ref w_d), .val (.ref r7), .unset, .unset, .unset]) rfl ?_
    show Steps p.tables e below (T7.setTop (mkF m 36 #[.val (.int p1), .val (.int p2), .val (.int p3), .val (.int p4), .val (.ref w_NATIVE), .val (.ref w_d), .val (.ref r7), .unset, .unset, .unset] [])) _
    refine st8 _ ?_
    show Steps p.tables e below (T8.setTop (mkF m 39 #[.val (.int p1), .val (.int p2), .val (.int p3), .val (.int p4), .val (.ref w_NATIVE), .val (.ref w_d), .val (.ref r7), .unset, .unset, .unset] [(.ref b8)])) _
    refine XS.dup X8.here hx rfl (hb hby at_39) rfl rfl ?_
    show Steps p.tables e below (T8.setTop (mkF m 40 #[.val (.int p1), .val (.int p2), .val (.int p3), .val (.int p4), .val (.ref w_NATIVE), .val (.ref w_d), .val (.ref r7), .unset, .unset, .unset] [(.ref b8), (.ref b8)])) _
    refine XS.aload X8.here hx rfl (hb hby at_40) rfl rfl ?_
    show Steps p.tables e below (T8.setTop (mkF m 42 #[.val (.int p1), .val (.int p2), .val (.int p3), .val (.int p4), .val (.ref w_NATIVE), .val (.ref w_d), .val (.ref r7), .unset, .unset, .unset] [(.ref w_NATIVE), (.ref b8), (.ref b8)])) _
    refine XS.aload X8.here hx rfl (hb hby at_42) rfl rfl ?_
    show Steps p.tables e below (T8.setTop (mkF m 44 #[.val (.int p1), .val (.int p2), .val (.int p3), .val (.int p4), .val (.ref w_NATIVE), .val (.ref w_d), .val (.ref r7), .unset, .unset, .unset] [(.ref r7), (.ref w_NATIVE), (.ref b8), (.ref b8)])) _
    refine XS.iloadN X8.here hx rfl (hb hby at_44) rfl ?_
    show Steps p.tables e below (T8.setTop (mkF m 45 #[.val (.int p1), .val (.int p2), .val (.int p3), .val (.int p4), .val (.ref w_NATIVE), .val (.ref w_d), .val (.ref r7), .unset, .unset, .unset] [(.int p3), (.ref r7), (.ref w_NATIVE), (.ref b8), (.ref b8)])) _
    refine st9.trans ?_
    show Steps p.tables e below (T9.setTop (mkF m 48 #[.val (.int p1), .val (.int p2), .val (.int p3), .val (.int p4), .val (.ref w_NATIVE), .val (.ref w_d), .val (.ref r7), .unset, .unset, .unset] [(.ref b8)])) _
    refine XS.astore X9.here hx rfl (hb hby at_48) rfl rfl (l' := #[.val (.int p1), .val (.int p2), .val (.int p3), .val (.int p4), .val (.ref w_NATIVE), .val (.ref w_d), .val (.ref r7), .val (.ref b8), .unset, .unset]) rfl ?_
    show Steps p.tables e below (T9.setTop (mkF m 50 #[.val (.int p1), .val (.int p2), .val (.int p3), .val (.int p4), .val (.ref w_NATIVE), .val (.ref w_d), .val (.ref r7), .val (.ref b8), .unset, .unset] [])) _
    refine XS.aload X9.here hx rfl (hb hby at_50) rfl rfl ?_
    show Steps p.tables e below (T9.setTop (mkF m 52 #[.val (.int p1), .val (.int p2), .val (.int p3), .val (.int p4), .val (.ref w_NATIVE), .val (.ref w_d), .val (.ref r7), .val (.ref b8), .unset, .unset] [(.ref b8)])) _
    refine XS.aload X9.here hx rfl (hb hby at_52) rfl rfl ?_
    show Steps p.tables e below (T9.setTop (mkF m 54 #[.val (.int p1), .val (.int p2), .val (.int p3), .val (.int p4), .val (.ref w_NATIVE), .val (.ref w_d), .val (.ref r7), .val (.ref b8), .unset, .unset] [(.ref w_d), (.ref b8)])) _
    refine st10.trans ?_
    show Steps p.tables e below (T10.setTop (mkF m 57 #[.val (.int p1), .val (.int p2), .val (.int p3), .val (.int p4), .val (.ref w_NATIVE), .val (.ref w_d), .val (.ref r7), .val (.ref b8), .unset, .unset] [(.ref w_SEQUENCE)])) _
    refine XS.astore X10.here hx rfl (hb hby at_57) rfl rfl (l' := #[.val (.int p1), .val (.int p2), .val (.int p3), .val (.int p4), .val (.ref w_NATIVE), .val (.ref w_d), .val (.ref r7), .val (.ref b8), .val (.ref w_SEQUENCE), .unset]) rfl ?_
    show Steps p.tables e below (T10.setTop (mkF m 59 #[.val (.int p1), .val (.int p2), .val (.int p3), .val (.int p4), .val (.ref w_NATIVE), .val (.ref w_d), .val (.ref r7), .val (.ref b8), .val (.ref w_SEQUENCE), .unset] [])) _
    refine XS.aload X10.here hx rfl (hb hby at_59) rfl rfl ?_
    show Steps p.tables e below (T10.setTop (mkF m 61 #[.val (.int p1), .val (.int p2), .val (.int p3), .val (.int p4), .val (.ref w_NATIVE), .val (.ref w_d), .val (.ref r7), .val (.ref b8), .val (.ref w_SEQUENCE), .unset] [(.ref w_NATIVE)])) _
    refine st11 _ ?_
    show Steps p.tables e below (T11.setTop (mkF m 64 #[.val (.int p1), .val (.int p2), .val (.int p3), .val (.int p4), .val (.ref w_NATIVE), .val (.ref w_d), .val (.ref r7), .val (.ref b8), .val (.ref w_SEQUENCE), .unset] [(.ref w_NATIVE), (.ref w_NATIVE)])) _
    refine Jvm.RoadKit.acmp (g := (mkF m 64 #[.val (.int p1), .val (.int p2), .val (.int p3), .val (.int p4), .val (.ref w_NATIVE), .val (.ref w_d), .val (.ref r7), .val (.ref b8), .val (.ref w_SEQUENCE), .unset] [(.ref w_NATIVE), (.ref w_NATIVE)])) X11 hx rfl rfl rfl (pc0 := 64) (pc' := 74) (same := true) rfl (hb hby at_64) rfl (decide_eq_true rfl) (by decide) (by decide) ?_
    show Steps p.tables e below (T11.setTop (mkF m 74 #[.val (.int p1), .val (.int p2), .val (.int p3), .val (.int p4), .val (.ref w_NATIVE), .val (.ref w_d), .val (.ref r7), .val (.ref b8), .val (.ref w_SEQUENCE), .unset] [])) _
    refine XS.aload X11.here hx rfl (hb hby at_74) rfl rfl ?_
    show Steps p.tables e below (T11.setTop (mkF m 76 #[.val (.int p1), .val (.int p2), .val (.int p3), .val (.int p4), .val (.ref w_NATIVE), .val (.ref w_d), .val (.ref r7), .val (.ref b8), .val (.ref w_SEQUENCE), .unset] [(.ref w_d)])) _
    refine st12.trans ?_
    show Steps p.tables e below (T12.setTop (mkF m 79 #[.val (.int p1), .val (.int p2), .val (.int p3), .val (.int p4), .val (.ref w_NATIVE), .val (.ref w_d), .val (.ref r7), .val (.ref b8), .val (.ref w_SEQUENCE), .unset] [(.int (1 : Int32))])) _
    refine XS.ifNo X12.here hx rfl (hb hby at_79) rfl ((if0 _ _).trans (feq hc79).1) ?_
    show Steps p.tables e below (T12.setTop (mkF m 82 #[.val (.int p1), .val (.int p2), .val (.int p3), .val (.int p4), .val (.ref w_NATIVE), .val (.ref w_d), .val (.ref r7), .val (.ref b8), .val (.ref w_SEQUENCE), .unset] [])) _
    refine st13 _ ?_
    show Steps p.tables e below (T13.setTop (mkF m 85 #[.val (.int p1), .val (.int p2), .val (.int p3), .val (.int p4), .val (.ref w_NATIVE), .val (.ref w_d), .val (.ref r7), .val (.ref b8), .val (.ref w_SEQUENCE), .unset] [(.ref w_SEQUENCE)])) _
    refine XS.astore X13.here hx rfl (hb hby at_85) rfl rfl (l' := #[.val (.int p1), .val (.int p2), .val (.int p3), .val (.int p4), .val (.ref w_NATIVE), .val (.ref w_d), .val (.ref r7), .val (.ref b8), .val (.ref w_SEQUENCE), .val (.ref w_SEQUENCE)]) rfl ?_
    show Steps p.tables e below (T13.setTop (mkF m 87 #[.val (.int p1), .val (.int p2), .val (.int p3), .val (.int p4), .val (.ref w_NATIVE), .val (.ref w_d), .val (.ref r7), .val (.ref b8), .val (.ref w_SEQUENCE), .val (.ref w_SEQUENCE)] [])) _
    refine XS.goto X13.here hx rfl (pc0 := 87) (pc' := 95) rfl (hb hby at_87) (by decide) (by decide) ?_
    show Steps p.tables e below (T13.setTop (mkF m 95 #[.val (.int p1), .val (.int p2), .val (.int p3), .val (.int p4), .val (.ref w_NATIVE), .val (.ref w_d), .val (.ref r7), .val (.ref b8), .val (.ref w_SEQUENCE), .val (.ref w_SEQUENCE)] [])) _
    refine XS.aload X13.here hx rfl (hb hby at_95) rfl rfl ?_
    show Steps p.tables e below (T13.setTop (mkF m 97 #[.val (.int p1), .val (.int p2), .val (.int p3), .val (.int p4), .val (.ref w_NATIVE), .val (.ref w_d), .val (.ref r7), .val (.ref b8), .val (.ref w_SEQUENCE), .val (.ref w_SEQUENCE)] [(.ref w_SEQUENCE)])) _
    refine XS.aload X13.here hx rfl (hb hby at_97) rfl rfl ?_
    show Steps p.tables e below (T13.setTop (mkF m 99 #[.val (.int p1), .val (.int p2), .val (.int p3), .val (.int p4), .val (.ref w_NATIVE), .val (.ref w_d), .val (.ref r7), .val (.ref b8), .val (.ref w_SEQUENCE), .val (.ref w_SEQUENCE)] [(.ref w_SEQUENCE), (.ref w_SEQUENCE)])) _
    refine Jvm.RoadKit.acmp (g := (mkF m 99 #[.val (.int p1), .val (.int p2), .val (.int p3), .val (.int p4), .val (.ref w_NATIVE), .val (.ref w_d), .val (.ref r7), .val (.ref b8), .val (.ref w_SEQUENCE), .val (.ref w_SEQUENCE)] [(.ref w_SEQUENCE), (.ref w_SEQUENCE)])) X13 hx rfl rfl rfl (pc0 := 99) (pc' := 102) (same := true) rfl (hb hby at_99) rfl (decide_eq_true rfl) (by decide) (by decide) ?_
    show Steps p.tables e below (T13.setTop (mkF m 102 #[.val (.int p1), .val (.int p2), .val (.int p3), .val (.int p4), .val (.ref w_NATIVE), .val (.ref w_d), .val (.ref r7), .val (.ref b8), .val (.ref w_SEQUENCE), .val (.ref w_SEQUENCE)] [])) _
    refine XS.aload X13.here hx rfl (hb hby at_102) rfl rfl ?_
    show Steps p.tables e below (T13.setTop (mkF m 104 #[.val (.int p1), .val (.int p2), .val (.int p3), .val (.int p4), .val (.ref w_NATIVE), .val (.ref w_d), .val (.ref r7), .val (.ref b8), .val (.ref w_SEQUENCE), .val (.ref w_SEQUENCE)] [(.ref b8)])) _
    refine st14.trans ?_
    show Steps p.tables e below (T14.setTop (mkF m 107 #[.val (.int p1), .val (.int p2), .val (.int p3), .val (.int p4), .val (.ref w_NATIVE), .val (.ref w_d), .val (.ref r7), .val (.ref b8), .val (.ref w_SEQUENCE), .val (.ref w_SEQUENCE)] [(.ref w_NATIVE)])) _
    refine XS.aload X14.here hx rfl (hb hby at_107) rfl rfl ?_
    show Steps p.tables e below (T14.setTop (mkF m 109 #[.val (.int p1), .val (.int p2), .val (.int p3), .val (.int p4), .val (.ref w_NATIVE), .val (.ref w_d), .val (.ref r7), .val (.ref b8), .val (.ref w_SEQUENCE), .val (.ref w_SEQUENCE)] [(.ref w_NATIVE), (.ref w_NATIVE)])) _
    refine Jvm.RoadKit.acmp (g := (mkF m 109 #[.val (.int p1), .val (.int p2), .val (.int p3), .val (.int p4), .val (.ref w_NATIVE), .val (.ref w_d), .val (.ref r7), .val (.ref b8), .val (.ref w_SEQUENCE), .val (.ref w_SEQUENCE)] [(.ref w_NATIVE), (.ref w_NATIVE)])) X14 hx rfl rfl rfl (pc0 := 109) (pc' := 112) (same := true) rfl (hb hby at_109) rfl (decide_eq_true rfl) (by decide) (by decide) ?_
    show Steps p.tables e below (T14.setTop (mkF m 112 #[.val (.int p1), .val (.int p2), .val (.int p3), .val (.int p4), .val (.ref w_NATIVE), .val (.ref w_d), .val (.ref r7), .val (.ref b8), .val (.ref w_SEQUENCE), .val (.ref w_SEQUENCE)] [])) _
    refine XS.iconst X14.here hx rfl (hb hby at_112) ?_
    show Steps p.tables e below (T14.setTop (mkF m 113 #[.val (.int p1), .val (.int p2), .val (.int p3), .val (.int p4), .val (.ref w_NATIVE), .val (.ref w_d), .val (.ref r7), .val (.ref b8), .val (.ref w_SEQUENCE), .val (.ref w_SEQUENCE)] [(.int (1 : Int32))])) _
    refine XS.goto X14.here hx rfl (pc0 := 113) (pc' := 117) rfl (hb hby at_113) (by decide) (by decide) ?_
    show Steps p.tables e below (T14.setTop (mkF m 117 #[.val (.int p1), .val (.int p2), .val (.int p3), .val (.int p4), .val (.ref w_NATIVE), .val (.ref w_d), .val (.ref r7), .val (.ref b8), .val (.ref w_SEQUENCE), .val (.ref w_SEQUENCE)] [(.int (1 : Int32))])) _
    exact retN X14 hx (t := .boolean) Bd.returns (by simp) (hb hby at_117) hr
  · show QL (some (.int (1 : Int32))) n0 _ T14.heap _
    rw [eq14]
    exact ⟨rfl, N14⟩

set_option maxRecDepth 65536 in
set_option maxHeartbeats 40000000 in
theorem rm0_f3 (l : Launch) (Z : State) (a0 : Array Value) (hw : ∀ d ∈ tables_1, d.before a0 Z = true) (ws : List Jvm.Cond) (p1 : Int32) (p2 : Int32) (p3 : Int32) (p4 : Int32) (w_ASSIGNED : Addr) (w_SEQUENCE : Addr) (w_IDENTITY : Addr) (w_NATIVE : Addr) (w_H2 : Addr) (w_POSTGRESQL : Addr) (w_MARIADB : Addr) (w_d : Addr) (w_COMPACT_STRINGS : Int32) (h0 : Heap) (n0 : Nat) (Z0 : n0 ≤ h0.size) (S_ASSIGNED : Sta Z h0 "com/example/hydrate/hydrate/mapping/IdGenerator$Kind" "ASSIGNED" "Lcom/example/hydrate/hydrate/mapping/IdGenerator$Kind;" (.ref w_ASSIGNED)) (S_SEQUENCE : Sta Z h0 "com/example/hydrate/hydrate/mapping/IdGenerator$Kind" "SEQUENCE" "Lcom/example/hydrate/hydrate/mapping/IdGenerator$Kind;" (.ref w_SEQUENCE)) (S_IDENTITY : Sta Z h0 "com/example/hydrate/hydrate/mapping/IdGenerator$Kind" "IDENTITY" "Lcom/example/hydrate/hydrate/mapping/IdGenerator$Kind;" (.ref w_IDENTITY)) (S_NATIVE : Sta Z h0 "com/example/hydrate/hydrate/mapping/IdGenerator$Kind" "NATIVE" "Lcom/example/hydrate/hydrate/mapping/IdGenerator$Kind;" (.ref w_NATIVE)) (S_H2 : Sta Z h0 "com/example/hydrate/hydrate/dialect/Dialect" "H2" "Lcom/example/hydrate/hydrate/dialect/Dialect;" (.ref w_H2)) (S_POSTGRESQL : Sta Z h0 "com/example/hydrate/hydrate/dialect/Dialect" "POSTGRESQL" "Lcom/example/hydrate/hydrate/dialect/Dialect;" (.ref w_POSTGRESQL)) (S_MARIADB : Sta Z h0 "com/example/hydrate/hydrate/dialect/Dialect" "MARIADB" "Lcom/example/hydrate/hydrate/dialect/Dialect;" (.ref w_MARIADB)) (E_w_d : Exa Z h0 w_d "com/example/hydrate/hydrate/dialect/Dialect$3") (hk : Kd (p1 &&& (3 : Int32)) w_NATIVE w_ASSIGNED w_SEQUENCE w_IDENTITY w_NATIVE) (hd : Dl (HMod.hMod (p2 &&& (2147483647 : Int32)) (3 : Int32)) w_d w_H2 w_POSTGRESQL w_MARIADB) (hcs : ¬ (w_COMPACT_STRINGS = (0 : Int32))) (S_COMPACT_STRINGS : Sta Z h0 "java/lang/String" "COMPACT_STRINGS" "Z" (.int w_COMPACT_STRINGS)) (F_nativeSequences_w_d : Fld Z h0 w_d "com/example/hydrate/hydrate/dialect/Dialect" "nativeSequences" "Z" (.int (0 : Int32))) (hc18 : ¬ ((((p4.toUInt32 >>> ((8 : Int32) &&& 31).toUInt32).toInt32) &&& (1 : Int32)) = (0 : Int32))) :
    MetFree l x (head1 (Jvm.Cond.code x code maxLocals ret :: ws) room_1) (fun a U => a = #[(.int p1), (.int p2), (.int p3), (.int p4)] ∧ Z.Warmed39 U.vm ∧ U.heap = h0) (fun _ _ _ _ _ => True) (fun _ U o U' => ∃ v L, o = .returned v ∧ QL (some (.int (1 : Int32))) n0 v U'.heap L ∧ FrameEnd U o U' L room_1.cells room_1.slots) := by
  refine MetFree.of_bodySF (plainFor_of_name pn_0) hisR ?_
  intro p e s m args below meth c s₁ Bd hml0 hP hK
  obtain ⟨rfl, hZ, hh⟩ := hP
  have hx := Bd.exec
  have hby := Bd.bytes
  have hml : c.maxLocals = 10 := hml0
  have hown : s.vm.findClass "com/example/hydrate/hydrate/mapping/IdGeneratorOnPinLaw" = some m.cls := findClass_of_methodNamed Bd.named
  have hnm := (name_of_methodNamed Bd.named Bd.method).1
  have X0 : Stand p l e room_1 s m #[(.int p1), (.int p2), (.int p3), (.int p4)] below meth c s₁ [] 0 0 := Stand.of_body Bd
  have e0 : s₁.heap = h0 := by rw [← hh, Bd.state]; rfl
  have N0 := Fr.nil n0
  have pre0 : ∀ t, Steps p.tables e below (s₁.setTop (mkF m 0 #[.val (.int p1), .val (.int p2), .val (.int p3), .val (.int p4), .unset, .unset, .unset, .unset, .unset, .unset] [])) t → Steps p.tables e below (s₁.setTop (entryFrame m #[(.int p1), (.int p2), (.int p3), (.int p4)] maxLocals)) t := fun t k => castTop (ef_0 m p1 p2 p3 p4) k
  obtain ⟨_, _, ⟨T5, L5, k5, n5⟩, -, X5, ⟨Lc5, hQ5, l5, y5, z5⟩, st5⟩ := Jvm.LawKit.callS X0 hx (y := (⟨"com/example/hydrate/hydrate/mapping/IdGeneratorOnPinLaw", "kindOf", "(I)Lcom/example/hydrate/hydrate/mapping/IdGenerator$Kind;"⟩ : MethodName)) hown (mvT hZ (hw _ (List.mem_of_getElem? (i := 0) rfl))) (mvT hZ (hw _ (List.mem_of_getElem? (i := 1) rfl))) (mvT hZ (hw _ (List.mem_of_getElem? (i := 2) rfl))) (mvT hZ (hw _ (List.mem_of_getElem? (i := 3) rfl))) (by decide) (backOf (W := 0) (rm1 l Z a0 hw [] p1 w_ASSIGNED w_SEQUENCE w_IDENTITY w_NATIVE w_NATIVE h0 n0 Z0 S_ASSIGNED S_SEQUENCE S_IDENTITY S_NATIVE hk) hZ (hw _ (List.mem_of_getElem? (i := 3) rfl)) (hw _ (List.mem_of_getElem? (i := 2) rfl)) (by decide) (by decide)) (g := (mkF m 1 #[.val (.int p1), .val (.int p2), .val (.int p3), .val (.int p4), .unset, .unset, .unset, .unset, .unset, .unset] [(.int p1)])) rfl (by rw [hml]; rfl) (argsL := [(.int p1)]) (rest := []) (lenOf pd_0_0 rfl) rfl (by show 2 * 0 + _ ≤ _; exact Nat.le_of_eq rfl) (hb hby at_1) (fun _ _ => ⟨rfl, e0, (by decide : 0 + 0 ≤ _), (by decide : 0 + 0 ≤ _)⟩)
  dsimp only [Pt.U, Pt.locs, Pt.cells, Pt.slots] at X5 l5 y5 z5 st5 hQ5
  subst l5 y5 z5
  obtain ⟨rfl, N5q, eq5⟩ := hQ5
  have N5 := Fr.app N0 N5q
  obtain ⟨_, _, ⟨T6, L6, k6, n6⟩, -, X6, ⟨Lc6, hQ6, l6, y6, z6⟩, st6⟩ := Jvm.LawKit.callS X5 hx (y := (⟨"com/example/hydrate/hydrate/mapping/IdGeneratorOnPinLaw", "dialectOf", "(I)Lcom/example/hydrate/hydrate/dialect/Dialect;"⟩ : MethodName)) hown (mvT hZ (hw _ (List.mem_of_getElem? (i := 7) rfl))) (mvT hZ (hw _ (List.mem_of_getElem? (i := 8) rfl))) (mvT hZ (hw _ (List.mem_of_getElem? (i := 2) rfl))) (mvT hZ (hw _ (List.mem_of_getElem? (i := 9) rfl))) (by decide) (backOf (W := 0) (rm2 l Z a0 hw [] p2 w_H2 w_POSTGRESQL w_MARIADB w_d h0 n0 Z0 S_H2 S_POSTGRESQL S_MARIADB hd) hZ (hw _ (List.mem_of_getElem? (i := 9) rfl)) (hw _ (List.mem_of_getElem? (i := 2) rfl)) (by decide) (by decide)) (g := (mkF m 7 #[.val (.int p1), .val (.int p2), .val (.int p3), .val (.int p4), .val (.ref w_NATIVE), .unset, .unset, .unset, .unset, .unset] [(.int p2)])) rfl (by rw [hml]; rfl) (argsL := [(.int p2)]) (rest := []) (lenOf pd_0_1 rfl) rfl (by show 2 * 0 + _ ≤ _; exact Nat.le_of_eq rfl) (hb hby at_7) (fun _ _ => ⟨rfl, eq5, (by decide : 0 + 0 ≤ _), (by decide : 0 + 0 ≤ _)⟩)
  dsimp only [Pt.U, Pt.locs, Pt.cells, Pt.slots] at X6 l6 y6 z6 st6 hQ6
  subst l6 y6 z6
  obtain ⟨rfl, N6q, eq6⟩ := hQ6
  have N6 := Fr.app N5 N6q
  obtain ⟨_, _, ⟨T7, L7, k7, n7⟩, -, X7, ⟨Lc7, hQ7, l7, y7, z7⟩, st7⟩ := Jvm.LawKit.callS X6 hx (y := (⟨"java/lang/String", "valueOf", "(C)Ljava/lang/String;"⟩ : MethodName)) hown (mvT hZ (hw _ (List.mem_of_getElem? (i := 62) rfl))) (mvT hZ (hw _ (List.mem_of_getElem? (i := 63) rfl))) (mvT hZ (hw _ (List.mem_of_getElem? (i := 64) rfl))) (mvT hZ (hw _ (List.mem_of_getElem? (i := 65) rfl))) (by decide) (backOf (W := 0) (rm9 l Z a0 hw [] (((p4 &&& (255 : Int32)).toUInt32.toUInt16.toUInt32.toInt32)) w_COMPACT_STRINGS h0 n0 Z0 (own_char p4) S_COMPACT_STRINGS hcs (by decide)) hZ (hw _ (List.mem_of_getElem? (i := 65) rfl)) (hw _ (List.mem_of_getElem? (i := 64) rfl)) (by decide) (by decide)) (g := (mkF m 27 #[.val (.int p1), .val (.int p2), .val (.int p3), .val (.int p4), .val (.ref w_NATIVE), .val (.ref w_d), .unset, .unset, .unset, .unset] [(.int ((p4 &&& (255 : Int32)).toUInt32.toUInt16.toUInt32.toInt32))])) rfl (by rw [hml]; rfl) (argsL := [(.int ((p4 &&& (255 : Int32)).toUInt32.toUInt16.toUInt32.toInt32))]) (rest := []) (lenOf pd_0_7 rfl) rfl (by show 2 * 0 + _ ≤ _; exact Nat.le_of_eq rfl) (hb hby at_27) (fun _ _ => ⟨rfl, eq6, (by decide : 0 + 2 ≤ _), (by decide : 0 + 5 ≤ _)⟩)
  dsimp only [Pt.U, Pt.locs, Pt.cells, Pt.slots] at X7 l7 y7 z7 st7 hQ7
  subst l7 y7 z7
  obtain ⟨r7, rfl, gr7, sr7, N7q, Kc7⟩ := hQ7
  have N7 := Fr.app N6 N7q
  have K7 : Keep h0 T7.heap [] := (Keep.refl h0 []).trans Kc7 all0
  obtain ⟨T8, h8, X8, e8, E8, A8, D8, -, st8⟩ := newO X7 hx hZ hown (hw _ (List.mem_of_getElem? (i := 14) rfl)) (hw _ (List.mem_of_getElem? (i := 15) rfl)) (hw _ (List.mem_of_getElem? (i := 16) rfl)) rfl (g := (mkF m 36 #[.val (.int p1), .val (.int p2), .val (.int p3), .val (.int p4), .val (.ref w_NATIVE), .val (.ref w_d), .val (.ref r7), .unset, .unset, .unset] [])) rfl (hb hby at_36) (by decide) (by decide)
  obtain ⟨b8, g8⟩ : ∃ z, z = T7.heap.size := ⟨_, rfl⟩      -- the fresh object's address
  rw [← g8] at A8 D8 st8      -- A8 : Exa Z h8 b8 "com/example/hydrate/hydrate/mapping/IdGenerator"; E8 : Ext T7.heap h8 (carries every older fact: .ext E8)
  have F_kind_b8 : Fld Z h8 b8 "com/example/hydrate/hydrate/mapping/IdGenerator" "kind" "Lcom/example/hydrate/hydrate/mapping/IdGenerator$Kind;" .null := D8 (Or.inr (hw _ (List.mem_of_getElem? (i := 29) rfl))) (ty := (.object "com/example/hydrate/hydrate/mapping/IdGenerator$Kind")) (by decide)
  have F_sequence_b8 : Fld Z h8 b8 "com/example/hydrate/hydrate/mapping/IdGenerator" "sequence" "Ljava/lang/String;" .null := D8 (Or.inr (hw _ (List.mem_of_getElem? (i := 31) rfl))) (ty := (.object "java/lang/String")) (by decide)
  have F_increment_b8 : Fld Z h8 b8 "com/example/hydrate/hydrate/mapping/IdGenerator" "increment" "I" (.int (0 : Int32)) := D8 (Or.inr (hw _ (List.mem_of_getElem? (i := 33) rfl))) (ty := .int) (by decide)
  have E_b8 := A8
  have g_b8 : n0 ≤ b8 := Nat.le_trans (Nat.le_trans Z0 Kc7.1) (Nat.le_of_eq g8.symm)
  have sz_b8 : h0.size ≤ b8 := (Nat.le_trans K7.1 (Nat.le_of_eq g8.symm))
  have K8 : Keep h0 h8 [] := K7.ext E8
  obtain ⟨_, _, ⟨T9, L9, k9, n9⟩, -, X9, ⟨Lc9, hQ9, l9, y9, z9⟩, st9⟩ := X8.specialBack hx (y := (⟨"com/example/hydrate/hydrate/mapping/IdGenerator", "<init>", "(Lcom/example/hydrate/hydrate/mapping/IdGenerator$Kind;Ljava/lang/String;I)V"⟩ : MethodName)) rfl hown (mvT hZ (hw _ (List.mem_of_getElem? (i := 17) rfl))) (mvT hZ (hw _ (List.mem_of_getElem? (i := 18) rfl))) (mvT hZ (hw _ (List.mem_of_getElem? (i := 19) rfl))) (by decide) (backOf (W := 1) (rm3 l Z a0 hw [] b8 w_NATIVE r7 p3 .null .null ((.int (0 : Int32))) h8 n0 (Nat.le_trans (Nat.le_trans Z0 Kc7.1) E8.1) E_b8 F_kind_b8 g_b8 F_sequence_b8 F_increment_b8) hZ (hw _ (List.mem_of_getElem? (i := 19) rfl)) (hw _ (List.mem_of_getElem? (i := 16) rfl)) (by decide) (by decide)) (g := (mkF m 45 #[.val (.int p1), .val (.int p2), .val (.int p3), .val (.int p4), .val (.ref w_NATIVE), .val (.ref w_d), .val (.ref r7), .unset, .unset, .unset] [(.int p3), (.ref r7), (.ref w_NATIVE), (.ref b8), (.ref b8)])) rfl (by rw [hml]; rfl) (Steps.refl _) (a := b8) (argsL := [(.ref w_NATIVE), (.ref r7), (.int p3)]) (rest := [(.ref b8)]) (lenOf pd_0_2 rfl) rfl (by show 2 * 0 + _ ≤ _; exact Nat.le_of_eq rfl) (hb hby at_45) (fun _ _ => ⟨rfl, e8, (by decide : 3 + 0 ≤ _), (by decide : 8 + 0 ≤ _)⟩)
  dsimp only [Pt.U, Pt.locs, Pt.cells, Pt.slots] at X9 l9 y9 z9 st9 hQ9
  subst l9 y9 z9
  obtain ⟨rfl, N9q, Kc9, Ex9, Fk9, Fs9, Fi9⟩ := hQ9
  have N9 := Fr.app N7 N9q
  have K9 : Keep h0 T9.heap [] := K8.trans Kc9 (allS (Or.inr sz_b8) (all0))
  obtain ⟨cq10, kq10, q10a, q10b, q10c⟩ := isOf hZ rfl (E_b8.keep Kc9)
  obtain ⟨_, _, ⟨T10, L10, k10, n10⟩, -, X10, ⟨Lc10, hQ10, l10, y10, z10⟩, st10⟩ := X9.virtualBack hx (y := (⟨"com/example/hydrate/hydrate/mapping/IdGenerator", "on", "(Lcom/example/hydrate/hydrate/dialect/Dialect;)Lcom/example/hydrate/hydrate/mapping/IdGenerator$Kind;"⟩ : MethodName)) (z := (⟨"com/example/hydrate/hydrate/mapping/IdGenerator", "on", "(Lcom/example/hydrate/hydrate/dialect/Dialect;)Lcom/example/hydrate/hydrate/mapping/IdGenerator$Kind;"⟩ : MethodName)) hown (mvT hZ (hw _ (List.mem_of_getElem? (i := 34) rfl))) (mvT hZ (hw _ (List.mem_of_getElem? (i := 35) rfl))) (notFace_of_selects (args := #[]) (mvT hZ (hw _ (List.mem_of_getElem? (i := 37) rfl)))) (mvT hZ (hw _ (List.mem_of_getElem? (i := 37) rfl))) (mvT hZ (hw _ (List.mem_of_getElem? (i := 36) rfl))) (by decide) (backOf (W := 0) (rm6_3 l Z a0 hw [] b8 w_d w_ASSIGNED w_SEQUENCE w_IDENTITY w_NATIVE w_NATIVE T9.heap n0 (Nat.le_trans (Nat.le_trans (Nat.le_trans Z0 Kc7.1) E8.1) Kc9.1) (own_stak1 ((own_stak0 S_ASSIGNED Kc7).ext E8) Kc9 E_b8) (own_stak1 ((own_stak0 S_SEQUENCE Kc7).ext E8) Kc9 E_b8) (own_stak1 ((own_stak0 S_IDENTITY Kc7).ext E8) Kc9 E_b8) (own_stak1 ((own_stak0 S_NATIVE Kc7).ext E8) Kc9 E_b8) (((F_nativeSequences_w_d.keep Kc7 nin0).ext E8).keep Kc9 (ninS (Nat.ne_of_lt (Nat.lt_of_lt_of_le (E_w_d.keep Kc7).lt (Nat.le_of_eq g8.symm))) nin0)) Fk9 (((E_w_d.keep Kc7).ext E8).keep Kc9) rfl) hZ (hw _ (List.mem_of_getElem? (i := 38) rfl)) (hw _ (List.mem_of_getElem? (i := 16) rfl)) (by decide) (by decide)) q10a q10c (g := (mkF m 54 #[.val (.int p1), .val (.int p2), .val (.int p3), .val (.int p4), .val (.ref w_NATIVE), .val (.ref w_d), .val (.ref r7), .val (.ref b8), .unset, .unset] [(.ref w_d), (.ref b8)])) rfl (by rw [hml]; rfl) (Steps.refl _) (argsL := [(.ref w_d)]) (rest := []) (lenOf pd_0_4 rfl) rfl (by show 2 * 0 + _ ≤ _; exact Nat.le_of_eq rfl) (hb hby at_54) (fun _ _ => ⟨rfl, rfl, (by decide : 3 + 0 ≤ _), (by decide : 8 + 0 ≤ _)⟩)
  dsimp only [Pt.U, Pt.locs, Pt.cells, Pt.slots] at X10 l10 y10 z10 st10 hQ10
  subst l10 y10 z10
  obtain ⟨rfl, N10q, eq10⟩ := hQ10
  have N10 := Fr.app N9 N10q
  obtain ⟨T11, X11, e11, st11⟩ := getS2 X10 hx hZ hown (host := "") (Or.inl (hw _ (List.mem_of_getElem? (i := 41) rfl))) Via.refl eq10 (own_stak1 ((own_stak0 S_NATIVE Kc7).ext E8) Kc9 E_b8) (g := (mkF m 61 #[.val (.int p1), .val (.int p2), .val (.int p3), .val (.int p4), .val (.ref w_NATIVE), .val (.ref w_d), .val (.ref r7), .val (.ref b8), .val (.ref w_IDENTITY), .unset] [(.ref w_NATIVE)])) rfl (hb hby at_61)
  obtain ⟨cq12, kq12, q12a, q12b, q12c⟩ := isOf hZ e11 (((E_w_d.keep Kc7).ext E8).keep Kc9)
  obtain ⟨_, _, ⟨T12, L12, k12, n12⟩, -, X12, ⟨Lc12, hQ12, l12, y12, z12⟩, st12⟩ := X11.virtualBack hx (y := (⟨"com/example/hydrate/hydrate/dialect/Dialect", "nativeSequences", "()Z"⟩ : MethodName)) (z := (⟨"com/example/hydrate/hydrate/dialect/Dialect", "nativeSequences", "()Z"⟩ : MethodName)) hown (mvT hZ (hw _ (List.mem_of_getElem? (i := 58) rfl))) (mvT hZ (hw _ (List.mem_of_getElem? (i := 50) rfl))) (notFace_of_selects (args := #[]) (mvT hZ (hw _ (List.mem_of_getElem? (i := 88) rfl)))) (mvT hZ (hw _ (List.mem_of_getElem? (i := 88) rfl))) (mvT hZ (hw _ (List.mem_of_getElem? (i := 51) rfl))) (by decide) (backOf (W := 0) (rm8_0 l Z a0 hw [] w_d T9.heap n0 (Nat.le_trans (Nat.le_trans (Nat.le_trans Z0 Kc7.1) E8.1) Kc9.1) (((F_nativeSequences_w_d.keep Kc7 nin0).ext E8).keep Kc9 (ninS (Nat.ne_of_lt (Nat.lt_of_lt_of_le (E_w_d.keep Kc7).lt (Nat.le_of_eq g8.symm))) nin0))) hZ (hw _ (List.mem_of_getElem? (i := 53) rfl)) (hw _ (List.mem_of_getElem? (i := 12) rfl)) (by decide) (by decide)) q12a q12c (g := (mkF m 76 #[.val (.int p1), .val (.int p2), .val (.int p3), .val (.int p4), .val (.ref w_NATIVE), .val (.ref w_d), .val (.ref r7), .val (.ref b8), .val (.ref w_IDENTITY), .unset] [(.ref w_d)])) rfl (by rw [hml]; rfl) (Steps.refl _) (argsL := []) (rest := []) (lenOf pd_0_6 rfl) rfl (by show 2 * 0 + _ ≤ _; exact Nat.le_of_eq rfl) (hb hby at_76) (fun _ _ => ⟨rfl, e11, (by decide : 3 + 0 ≤ _), (by decide : 8 + 0 ≤ _)⟩)
  dsimp only [Pt.U, Pt.locs, Pt.cells, Pt.slots] at X12 l12 y12 z12 st12 hQ12
  subst l12 y12 z12
  obtain ⟨rfl, N12q, eq12⟩ := hQ12
  have N12 := Fr.app N10 N12q
  obtain ⟨T13, X13, e13, st13⟩ := getS2 X12 hx hZ hown (host := "") (Or.inl (hw _ (List.mem_of_getElem? (i := 60) rfl))) Via.refl eq12 (own_stak1 ((own_stak0 S_IDENTITY Kc7).ext E8) Kc9 E_b8) (g := (mkF m 90 #[.val (.int p1), .val (.int p2), .val (.int p3), .val (.int p4), .val (.ref w_NATIVE), .val (.ref w_d), .val (.ref r7), .val (.ref b8), .val (.ref w_IDENTITY), .unset] [])) rfl (hb hby at_90)
  obtain ⟨cq14, kq14, q14a, q14b, q14c⟩ := isOf hZ e13 (E_b8.keep Kc9)
  obtain ⟨_, _, ⟨T14, L14, k14, n14⟩, -, X14, ⟨Lc14, hQ14, l14, y14, z14⟩, st14⟩ := X13.virtualBack hx (y := (⟨"com/example/hydrate/hydrate/mapping/IdGenerator", "kind", "()Lcom/example/hydrate/hydrate/mapping/IdGenerator$Kind;"⟩ : MethodName)) (z := (⟨"com/example/hydrate/hydrate/mapping/IdGenerator", "kind", "()Lcom/example/hydrate/hydrate/mapping/IdGenerator$Kind;"⟩ : MethodName)) hown (mvT hZ (hw _ (List.mem_of_getElem? (i := 42) rfl))) (mvT hZ (hw _ (List.mem_of_getElem? (i := 43) rfl))) (notFace_of_selects (args := #[]) (mvT hZ (hw _ (List.mem_of_getElem? (i := 45) rfl)))) (mvT hZ (hw _ (List.mem_of_getElem? (i := 45) rfl))) (mvT hZ (hw _ (List.mem_of_getElem? (i := 44) rfl))) (by decide) (backOf (W := 0) (rm7 l Z a0 hw [] b8 w_NATIVE T9.heap n0 (Nat.le_trans (Nat.le_trans (Nat.le_trans Z0 Kc7.1) E8.1) Kc9.1) Fk9) hZ (hw _ (List.mem_of_getElem? (i := 46) rfl)) (hw _ (List.mem_of_getElem? (i := 16) rfl)) (by decide) (by decide)) q14a q14c (g := (mkF m 104 #[.val (.int p1), .val (.int p2), .val (.int p3), .val (.int p4), .val (.ref w_NATIVE), .val (.ref w_d), .val (.ref r7), .val (.ref b8), .val (.ref w_IDENTITY), .val (.ref w_IDENTITY)] [(.ref b8)])) rfl (by rw [hml]; rfl) (Steps.refl _) (argsL := []) (rest := []) (lenOf pd_0_5 rfl) rfl (by show 2 * 0 + _ ≤ _; exact Nat.le_of_eq rfl) (hb hby at_104) (fun _ _ => ⟨rfl, e13, (by decide : 3 + 0 ≤ _), (by decide : 8 + 0 ≤ _)⟩)
  dsimp only [Pt.U, Pt.locs, Pt.cells, Pt.slots] at X14 l14 y14 z14 st14 hQ14
  subst l14 y14 z14
  obtain ⟨rfl, N14q, eq14⟩ := hQ14
  have N14 := Fr.app N12 N14q
  obtain ⟨fs, hr, hrun, hended, hW, hsame⟩ := X14.leave (v := some (.int (1 : Int32))) (fun h => by rw [Bd.returns] at h; cases h)
  refine ⟨_, _, pre0 _ ?_, hrun, hended, _, _, rfl, ?_, ⟨_, rfl⟩, hW, hsame.mono (by decide) (by decide)⟩
  · show Steps p.tables e below (s₁.setTop (mkF m 0 #[.val (.int p1), .val (.int p2), .val (.int p3), .val (.int p4), .unset, .unset, .unset, .unset, .unset, .unset] [])) _
    refine XS.iloadN X0.here hx rfl (hb hby at_0) rfl ?_
    show Steps p.tables e below (s₁.setTop (mkF m 1 #[.val (.int p1), .val (.int p2), .val (.int p3), .val (.int p4), .unset, .unset, .unset, .unset, .unset, .unset] [(.int p1)])) _
    refine st5 _ ?_
    show Steps p.tables e below (T5.setTop (mkF m 4 #[.val (.int p1), .val (.int p2), .val (.int p3), .val (.int p4), .unset, .unset, .unset, .unset, .unset, .unset] [(.ref w_NATIVE)])) _
    refine XS.astore X5.here hx rfl (hb hby at_4) rfl rfl (l' := #[.val (.int p1), .val (.int p2), .val (.int p3), .val (.int p4), .val (.ref w_NATIVE), .unset, .unset, .unset, .unset, .unset]) rfl ?_
    show Steps p.tables e below (T5.setTop (mkF m 6 #[.val (.int p1), .val (.int p2), .val (.int p3), .val (.int p4), .val (.ref w_NATIVE), .unset, .unset, .unset, .unset, .unset] [])) _
    refine XS.iloadN X5.here hx rfl (hb hby at_6) rfl ?_
    show Steps p.tables e below (T5.setTop (mkF m 7 #[.val (.int p1), .val (.int p2), .val (.int p3), .val (.int p4), .val (.ref w_NATIVE), .unset, .unset, .unset, .unset, .unset] [(.int p2)])) _
    refine st6 _ ?_
    show Steps p.tables e below (T6.setTop (mkF m 10 #[.val (.int p1), .val (.int p2), .val (.int p3), .val (.int p4), .val (.ref w_NATIVE), .unset, .unset, .unset, .unset, .unset] [(.ref w_d)])) _
    refine XS.astore X6.here hx rfl (hb hby at_10) rfl rfl (l' := #[.val (.int p1), .val (.int p2), .val (.int p3), .val (.int p4), .val (.ref w_NATIVE), .val (.ref w_d), .unset, .unset, .unset, .unset]) rfl ?_
    show Steps p.tables e below (T6.setTop (mkF m 12 #[.val (.int p1), .val (.int p2), .val (.int p3), .val (.int p4), .val (.ref w_NATIVE), .val (.ref w_d), .unset, .unset, .unset, .unset] [])) _
    refine XS.iloadN X6.here hx rfl (hb hby at_12) rfl ?_
    show Steps p.tables e below (T6.setTop (mkF m 13 #[.val (.int p1), .val (.int p2), .val (.int p3), .val (.int p4), .val (.ref w_NATIVE), .val (.ref w_d), .unset, .unset, .unset, .unset] [(.int p4)])) _
    refine XS.bipush X6.here hx rfl (hb hby at_13) ?_
    show Steps p.tables e below (T6.setTop (mkF m 15 #[.val (.int p1), .val (.int p2), .val (.int p3), .val (.int p4), .val (.ref w_NATIVE), .val (.ref w_d), .unset, .unset, .unset, .unset] [(.int (8 : Int32)), (.int p4)])) _
    refine XS.iushr X6.here hx rfl (hb hby at_15) rfl ?_
    show Steps p.tables e below (T6.setTop (mkF m 16 #[.val (.int p1), .val (.int p2), .val (.int p3), .val (.int p4), .val (.ref w_NATIVE), .val (.ref w_d), .unset, .unset, .unset, .unset] [(.int ((p4.toUInt32 >>> ((8 : Int32) &&& 31).toUInt32).toInt32))])) _
    refine XS.iconst X6.here hx rfl (hb hby at_16) ?_
    show Steps p.tables e below (T6.setTop (mkF m 17 #[.val (.int p1), .val (.int p2), .val (.int p3), .val (.int p4), .val (.ref w_NATIVE), .val (.ref w_d), .unset, .unset, .unset, .unset] [(.int (1 : Int32)), (.int ((p4.toUInt32 >>> ((8 : Int32) &&& 31).toUInt32).toInt32))])) _
    refine XS.iand X6.here hx rfl (hb hby at_17) rfl ?_
    show Steps p.tables e below (T6.setTop (mkF m 18 #[.val (.int p1), .val (.int p2), .val (.int p3), .val (.int p4), .val (.ref w_NATIVE), .val (.ref w_d), .unset, .unset, .unset, .unset] [(.int (((p4.toUInt32 >>> ((8 : Int32) &&& 31).toUInt32).toInt32) &&& (1 : Int32)))])) _
    refine XS.ifNo X6.here hx rfl (hb hby at_18) rfl ((if0 _ _).trans (feq hc18).1) ?_
    show Steps p.tables e below (T6.setTop (mkF m 21 #[.val (.int p1), .val (.int p2), .val (.int p3), .val (.int p4), .val (.ref w_NATIVE), .val (.ref w_d), .unset, .unset, .unset, .unset] [])) _
    refine XS.iloadN X6.here hx rfl (hb hby at_21) rfl ?_
    show Steps p.tables e below (T6.setTop (mkF m 22 #[.val (.int p1), .val (.int p2), .val (.int p3), .val (.int p4), .val (.ref w_NATIVE), .val (.ref w_d), .unset, .unset, .unset, .unset] [(.int p4)])) _
    refine XS.sipush X6.here hx rfl (hb hby at_22) ?_
    show Steps p.tables e below (T6.setTop (mkF m 25 #[.val (.int p1), .val (.int p2), .val (.int p3), .val (.int p4), .val (.ref w_NATIVE), .val (.ref w_d), .unset, .unset, .unset, .unset] [(.int (255 : Int32)), (.int p4)])) _
    refine XS.iand X6.here hx rfl (hb hby at_25) rfl ?_
    show Steps p.tables e below (T6.setTop (mkF m 26 #[.val (.int p1), .val (.int p2), .val (.int p3), .val (.int p4), .val (.ref w_NATIVE), .val (.ref w_d), .unset, .unset, .unset, .unset] [(.int (p4 &&& (255 : Int32)))])) _
    refine XS.i2c X6.here hx rfl (hb hby at_26) rfl ?_
    show Steps p.tables e below (T6.setTop (mkF m 27 #[.val (.int p1), .val (.int p2), .val (.int p3), .val (.int p4), .val (.ref w_NATIVE), .val (.ref w_d), .unset, .unset, .unset, .unset] [(.int ((p4 &&& (255 : Int32)).toUInt32.toUInt16.toUInt32.toInt32))])) _
    refine st7 _ ?_
    show Steps p.tables e below (T7.setTop (mkF m 30 #[.val (.int p1), .val (.int p2), .val (.int p3), .val (.int p4), .val (.ref w_NATIVE), .val (.ref w_d), .unset, .unset, .unset, .unset] [(.ref r7)])) _
    refine XS.goto X7.here hx rfl (pc0 := 30) (pc' := 34) rfl (hb hby at_30) (by decide) (by decide) ?_
    show Steps p.tables e below (T7.setTop (mkF m 34 #[.val (.int p1), .val (.int p2), .val (.int p3), .val (.int p4), .val (.ref w_NATIVE), .val (.ref w_d), .unset, .unset, .unset, .unset] [(.ref r7)])) _
    refine XS.astore X7.here hx rfl (hb hby at_34) rfl rfl (l' := #[.val (.int p1), .val (.int p2), .val (.int p3), .val (.int p4), .val (.ref w_NATIVE), .val (.ref w_d), .val (.ref r7), .unset, .unset, .unset]) rfl ?_
    show Steps p.tables e below (T7.setTop (mkF m 36 #[.val (.int p1), .val (.int p2), .val (.int p3), .val (.int p4), .val (.ref w_NATIVE), .val (.ref w_d), .val (.ref r7), .unset, .unset, .unset] [])) _
    refine st8 _ ?_
    show Steps p.tables e below (T8.setTop (mkF m 39 #[.val (.int p1), .val (.int p2), .val (.int p3), .val (.int p4), .val (.ref w_NATIVE), .val (.ref w_d), .val (.ref r7), .unset, .unset, .unset] [(.ref b8)])) _
    refine XS.dup X8.here hx rfl (hb hby at_39) rfl rfl ?_
    show Steps p.tables e below (T8.setTop (mkF m 40 #[.val (.int p1), .val (.int p2), .val (.int p3), .val (.int p4), .val (.ref w_NATIVE), .val (.ref w_d), .val (.ref r7), .unset, .unset, .unset] [(.ref b8), (.ref b8)])) _
    refine XS.aload X8.here hx rfl (hb hby at_40) rfl rfl ?_
    show Steps p.tables e below (T8.setTop (mkF m 42 #[.val (.int p1), .val (.int p2), .val (.int p3), .val (.int p4), .val (.ref w_NATIVE), .val (.ref w_d), .val (.ref r7), .unset, .unset, .unset] [(.ref w_NATIVE), (.ref b8), (.ref b8)])) _
    refine XS.aload X8.here hx rfl (hb hby at_42) rfl rfl ?_
    show Steps p.tables e below (T8.setTop (mkF m 44 #[.val (.int p1), .val (.int p2), .val (.int p3), .val (.int p4), .val (.ref w_NATIVE), .val (.ref w_d), .val (.ref r7), .unset, .unset, .unset] [(.ref r7), (.ref w_NATIVE), (.ref b8), (.ref b8)])) _
    refine XS.iloadN X8.here hx rfl (hb hby at_44) rfl ?_
    show Steps p.tables e below (T8.setTop (mkF m 45 #[.val (.int p1), .val (.int p2), .val (.int p3), .val (.int p4), .val (.ref w_NATIVE), .val (.ref w_d), .val (.ref r7), .unset, .unset, .unset] [(.int p3), (.ref r7), (.ref w_NATIVE), (.ref b8), (.ref b8)])) _
    refine st9.trans ?_
    show Steps p.tables e below (T9.setTop (mkF m 48 #[.val (.int p1), .val (.int p2), .val (.int p3), .val (.int p4), .val (.ref w_NATIVE), .val (.ref w_d), .val (.ref r7), .unset, .unset, .unset] [(.ref b8)])) _
    refine XS.astore X9.here hx rfl (hb hby at_48) rfl rfl (l' := #[.val (.int p1), .val (.int p2), .val (.int p3), .val (.int p4), .val (.ref w_NATIVE), .val (.ref w_d), .val (.ref r7), .val (.ref b8), .unset, .unset]) rfl ?_
    show Steps p.tables e below (T9.setTop (mkF m 50 #[.val (.int p1), .val (.int p2), .val (.int p3), .val (.int p4), .val (.ref w_NATIVE), .val (.ref w_d), .val (.ref r7), .val (.ref b8), .unset, .unset] [])) _
    refine XS.aload X9.here hx rfl (hb hby at_50) rfl rfl ?_
    show Steps p.tables e below (T9.setTop (mkF m 52 #[.val (.int p1), .val (.int p2), .val (.int p3), .val (.int p4), .val (.ref w_NATIVE), .val (.ref w_d), .val (.ref r7), .val (.ref b8), .unset, .unset] [(.ref b8)])) _
    refine XS.aload X9.here hx rfl (hb hby at_52) rfl rfl ?_
    show Steps p.tables e below (T9.setTop (mkF m 54 #[.val (.int p1), .val (.int p2), .val (.int p3), .val (.int p4), .val (.ref w_NATIVE), .val (.ref w_d), .val (.ref r7), .val (.ref b8), .unset, .unset] [(.ref w_d), (.ref b8)])) _
    refine st10.trans ?_
    show Steps p.tables e below (T10.setTop (mkF m 57 #[.val (.int p1), .val (.int p2), .val (.int p3), .val (.int p4), .val (.ref w_NATIVE), .val (.ref w_d), .val (.ref r7), .val (.ref b8), .unset, .unset] [(.ref w_IDENTITY)])) _
    refine XS.astore X10.here hx rfl (hb hby at_57) rfl rfl (l' := #[.val (.int p1), .val (.int p2), .val (.int p3), .val (.int p4), .val (.ref w_NATIVE), .val (.ref w_d), .val (.ref r7), .val (.ref b8), .val (.ref w_IDENTITY), .unset]) rfl ?_
    show Steps p.tables e below (T10.setTop (mkF m 59 #[.val (.int p1), .val (.int p2), .val (.int p3), .val (.int p4), .val (.ref w_NATIVE), .val (.ref w_d), .val (.ref r7), .val (.ref b8), .val (.ref w_IDENTITY), .unset] [])) _
    refine XS.aload X10.here hx rfl (hb hby at_59) rfl rfl ?_
    show Steps p.tables e below (T10.setTop (mkF m 61 #[.val (.int p1), .val (.int p2), .val (.int p3), .val (.int p4), .val (.ref w_NATIVE), .val (.ref w_d), .val (.ref r7), .val (.ref b8), .val (.ref w_IDENTITY), .unset] [(.ref w_NATIVE)])) _
    refine st11 _ ?_
    show Steps p.tables e below (T11.setTop (mkF m 64 #[.val (.int p1), .val (.int p2), .val (.int p3), .val (.int p4), .val (.ref w_NATIVE), .val (.ref w_d), .val (.ref r7), .val (.ref b8), .val (.ref w_IDENTITY), .unset] [(.ref w_NATIVE), (.ref w_NATIVE)])) _
    refine Jvm.RoadKit.acmp (g := (mkF m 64 #[.val (.int p1), .val (.int p2), .val (.int p3), .val (.int p4), .val (.ref w_NATIVE), .val (.ref w_d), .val (.ref r7), .val (.ref b8), .val (.ref w_IDENTITY), .unset] [(.ref w_NATIVE), (.ref w_NATIVE)])) X11 hx rfl rfl rfl (pc0 := 64) (pc' := 74) (same := true) rfl (hb hby at_64) rfl (decide_eq_true rfl) (by decide) (by decide) ?_
    show Steps p.tables e below (T11.setTop (mkF m 74 #[.val (.int p1), .val (.int p2), .val (.int p3), .val (.int p4), .val (.ref w_NATIVE), .val (.ref w_d), .val (.ref r7), .val (.ref b8), .val (.ref w_IDENTITY), .unset] [])) _
    refine XS.aload X11.here hx rfl (hb hby at_74) rfl rfl ?_
    show Steps p.tables e below (T11.setTop (mkF m 76 #[.val (.int p1), .val (.int p2), .val (.int p3), .val (.int p4), .val (.ref w_NATIVE), .val (.ref w_d), .val (.ref r7), .val (.ref b8), .val (.ref w_IDENTITY), .unset] [(.ref w_d)])) _
    refine st12.trans ?_
    show Steps p.tables e below (T12.setTop (mkF m 79 #[.val (.int p1), .val (.int p2), .val (.int p3), .val (.int p4), .val (.ref w_NATIVE), .val (.ref w_d), .val (.ref r7), .val (.ref b8), .val (.ref w_IDENTITY), .unset] [(.int (0 : Int32))])) _
    refine XS.ifYes X12.here hx rfl (pc0 := 79) (pc' := 90) rfl (hb hby at_79) rfl ((if0 _ _).trans (teq (rfl : (0 : Int32) = (0 : Int32))).1) (by decide) (by decide) ?_
    show Steps p.tables e below (T12.setTop (mkF m 90 #[.val (.int p1), .val (.int p2), .val (.int p3), .val (.int p4), .val (.ref w_NATIVE), .val (.ref w_d), .val (.ref r7), .val (.ref b8), .val (.ref w_IDENTITY), .unset] [])) _
    refine st13 _ ?_
    show Steps p.tables e below (T13.setTop (mkF m 93 #[.val (.int p1), .val (.int p2), .val (.int p3), .val (.int p4), .val (.ref w_NATIVE), .val (.ref w_d), .val (.ref r7), .val (.ref b8), .val (.ref w_IDENTITY), .unset] [(.ref w_IDENTITY)])) _
    refine XS.astore X13.here hx rfl (hb hby at_93) rfl rfl (l' := #[.val (.int p1), .val (.int p2), .val (.int p3), .val (.int p4), .val (.ref w_NATIVE), .val (.ref w_d), .val (.ref r7), .val (.ref b8), .val (.ref w_IDENTITY), .val (.ref w_IDENTITY)]) rfl ?_
    show Steps p.tables e below (T13.setTop (mkF m 95 #[.val (.int p1), .val (.int p2), .val (.int p3), .val (.int p4), .val (.ref w_NATIVE), .val (.ref w_d), .val (.ref r7), .val (.ref b8), .val (.ref w_IDENTITY), .val (.ref w_IDENTITY)] [])) _
    refine XS.aload X13.here hx rfl (hb hby at_95) rfl rfl ?_
    show Steps p.tables e below (T13.setTop (mkF m 97 #[.val (.int p1), .val (.int p2), .val (.int p3), .val (.int p4), .val (.ref w_NATIVE), .val (.ref w_d), .val (.ref r7), .val (.ref b8), .val (.ref w_IDENTITY), .val (.ref w_IDENTITY)] [(.ref w_IDENTITY)])) _
    refine XS.aload X13.here hx rfl (hb hby at_97) rfl rfl ?_
    show Steps p.tables e below (T13.setTop (mkF m 99 #[.val (.int p1), .val (.int p2), .val (.int p3), .val (.int p4), .val (.ref w_NATIVE), .val (.ref w_d), .val (.ref r7), .val (.ref b8), .val (.ref w_IDENTITY), .val (.ref w_IDENTITY)] [(.ref w_IDENTITY), (.ref w_IDENTITY)])) _
    refine Jvm.RoadKit.acmp (g := (mkF m 99 #[.val (.int p1), .val (.int p2), .val (.int p3), .val (.int p4), .val (.ref w_NATIVE), .val (.ref w_d), .val (.ref r7), .val (.ref b8), .val (.ref w_IDENTITY), .val (.ref w_IDENTITY)] [(.ref w_IDENTITY), (.ref w_IDENTITY)])) X13 hx rfl rfl rfl (pc0 := 99) (pc' := 102) (same := true) rfl (hb hby at_99) rfl (decide_eq_true rfl) (by decide) (by decide) ?_
    show Steps p.tables e below (T13.setTop (mkF m 102 #[.val (.int p1), .val (.int p2), .val (.int p3), .val (.int p4), .val (.ref w_NATIVE), .val (.ref w_d), .val (.ref r7), .val (.ref b8), .val (.ref w_IDENTITY), .val (.ref w_IDENTITY)] [])) _
    refine XS.aload X13.here hx rfl (hb hby at_102) rfl rfl ?_
    show Steps p.tables e below (T13.setTop (mkF m 104 #[.val (.int p1), .val (.int p2), .val (.int p3), .val (.int p4), .val (.ref w_NATIVE), .val (.ref w_d), .val (.ref r7), .val (.ref b8), .val (.ref w_IDENTITY), .val (.ref w_IDENTITY)] [(.ref b8)])) _
    refine st14.trans ?_
    show Steps p.tables e below (T14.setTop (mkF m 107 #[.val (.int p1), .val (.int p2), .val (.int p3), .val (.int p4), .val (.ref w_NATIVE), .val (.ref w_d), .val (.ref r7), .val (.ref b8), .val (.ref w_IDENTITY), .val (.ref w_IDENTITY)] [(.ref w_NATIVE)])) _
    refine XS.aload X14.here hx rfl (hb hby at_107) rfl rfl ?_
    show Steps p.tables e below (T14.setTop (mkF m 109 #[.val (.int p1), .val (.int p2), .val (.int p3), .val (.int p4), .val (.ref w_NATIVE), .val (.ref w_d), .val (.ref r7), .val (.ref b8), .val (.ref w_IDENTITY), .val (.ref w_IDENTITY)] [(.ref w_NATIVE), (.ref w_NATIVE)])) _
    refine Jvm.RoadKit.acmp (g := (mkF m 109 #[.val (.int p1), .val (.int p2), .val (.int p3), .val (.int p4), .val (.ref w_NATIVE), .val (.ref w_d), .val (.ref r7), .val (.ref b8), .val (.ref w_IDENTITY), .val (.ref w_IDENTITY)] [(.ref w_NATIVE), (.ref w_NATIVE)])) X14 hx rfl rfl rfl (pc0 := 109) (pc' := 112) (same := true) rfl (hb hby at_109) rfl (decide_eq_true rfl) (by decide) (by decide) ?_
    show Steps p.tables e below (T14.setTop (mkF m 112 #[.val (.int p1), .val (.int p2), .val (.int p3), .val (.int p4), .val (.ref w_NATIVE), .val (.ref w_d), .val (.ref r7), .val (.ref b8), .val (.ref w_IDENTITY), .val (.ref w_IDENTITY)] [])) _
    refine XS.iconst X14.here hx rfl (hb hby at_112) ?_
    show Steps p.tables e below (T14.setTop (mkF m 113 #[.val (.int p1), .val (.int p2), .val (.int p3), .val (.int p4), .val (.ref w_NATIVE), .val (.ref w_d), .val (.ref r7), .val (.ref b8), .val (.ref w_IDENTITY), .val (.ref w_IDENTITY)] [(.int (1 : Int32))])) _
    refine XS.goto X14.here hx rfl (pc0 := 113) (pc' := 117) rfl (hb hby at_113) (by decide) (by decide) ?_
    show Steps p.tables e below (T14.setTop (mkF m 117 #[.val (.int p1), .val (.int p2), .val (.int p3), .val (.int p4), .val (.ref w_NATIVE), .val (.ref w_d), .val (.ref r7), .val (.ref b8), .val (.ref w_IDENTITY), .val (.ref w_IDENTITY)] [(.int (1 : Int32))])) _
    exact retN X14 hx (t := .boolean) Bd.returns (by simp) (hb hby at_117) hr
  · show QL (some (.int (1 : Int32))) n0 _ T14.heap _
    rw [eq14]
    exact ⟨rfl, N14⟩

set_option maxRecDepth 65536 in
set_option maxHeartbeats 40000000 in
theorem rm0_tA (l : Launch) (Z : State) (a0 : Array Value) (hw : ∀ d ∈ tables_1, d.before a0 Z = true) (ws : List Jvm.Cond) (p1 : Int32) (p2 : Int32) (p3 : Int32) (p4 : Int32) (w_ASSIGNED : Addr) (w_SEQUENCE : Addr) (w_IDENTITY : Addr) (w_NATIVE : Addr) (w_H2 : Addr) (w_POSTGRESQL : Addr) (w_MARIADB : Addr) (w_k : Addr) (w_d : Addr) (w_COMPACT_STRINGS : Int32) (h0 : Heap) (n0 : Nat) (Z0 : n0 ≤ h0.size) (S_ASSIGNED : Sta Z h0 "com/example/hydrate/hydrate/mapping/IdGenerator$Kind" "ASSIGNED" "Lcom/example/hydrate/hydrate/mapping/IdGenerator$Kind;" (.ref w_ASSIGNED)) (S_SEQUENCE : Sta Z h0 "com/example/hydrate/hydrate/mapping/IdGenerator$Kind" "SEQUENCE" "Lcom/example/hydrate/hydrate/mapping/IdGenerator$Kind;" (.ref w_SEQUENCE)) (S_IDENTITY : Sta Z h0 "com/example/hydrate/hydrate/mapping/IdGenerator$Kind" "IDENTITY" "Lcom/example/hydrate/hydrate/mapping/IdGenerator$Kind;" (.ref w_IDENTITY)) (S_NATIVE : Sta Z h0 "com/example/hydrate/hydrate/mapping/IdGenerator$Kind" "NATIVE" "Lcom/example/hydrate/hydrate/mapping/IdGenerator$Kind;" (.ref w_NATIVE)) (S_H2 : Sta Z h0 "com/example/hydrate/hydrate/dialect/Dialect" "H2" "Lcom/example/hydrate/hydrate/dialect/Dialect;" (.ref w_H2)) (S_POSTGRESQL : Sta Z h0 "com/example/hydrate/hydrate/dialect/Dialect" "POSTGRESQL" "Lcom/example/hydrate/hydrate/dialect/Dialect;" (.ref w_POSTGRESQL)) (S_MARIADB : Sta Z h0 "com/example/hydrate/hydrate/dialect/Dialect" "MARIADB" "Lcom/example/hydrate/hydrate/dialect/Dialect;" (.ref w_MARIADB)) (hk : Kd (p1 &&& (3 : Int32)) w_k w_ASSIGNED w_SEQUENCE w_IDENTITY w_NATIVE) (hd : Dl (HMod.hMod (p2 &&& (2147483647 : Int32)) (3 : Int32)) w_d w_H2 w_POSTGRESQL w_MARIADB) (hcs : ¬ (w_COMPACT_STRINGS = (0 : Int32))) (S_COMPACT_STRINGS : Sta Z h0 "java/lang/String" "COMPACT_STRINGS" "Z" (.int w_COMPACT_STRINGS)) (hn : ¬ (w_k = w_NATIVE)) (hc18 : (((p4.toUInt32 >>> ((8 : Int32) &&& 31).toUInt32).toInt32) &&& (1 : Int32)) = (0 : Int32)) (ha64 : ¬ (w_k = w_NATIVE)) :
    MetFree l x (head1 (Jvm.Cond.code x code maxLocals ret :: ws) room_1) (fun a U => a = #[(.int p1), (.int p2), (.int p3), (.int p4)] ∧ Z.Warmed39 U.vm ∧ U.heap = h0) (fun _ _ _ _ _ => True) (fun _ U o U' => ∃ v L, o = .returned v ∧ QL (some (.int (1 : Int32))) n0 v U'.heap L ∧ FrameEnd U o U' L room_1.cells room_1.slots) := by
  refine MetFree.of_bodySF (plainFor_of_name pn_0) hisR ?_
  intro p e s m args below meth c s₁ Bd hml0 hP hK
  obtain ⟨rfl, hZ, hh⟩ := hP
  have hx := Bd.exec
  have hby := Bd.bytes
  have hml : c.maxLocals = 10 := hml0
  have hown : s.vm.findClass "com/example/hydrate/hydrate/mapping/IdGeneratorOnPinLaw" = some m.cls := findClass_of_methodNamed Bd.named
  have hnm := (name_of_methodNamed Bd.named Bd.method).1
  have X0 : Stand p l e room_1 s m #[(.int p1), (.int p2), (.int p3), (.int p4)] below meth c s₁ [] 0 0 := Stand.of_body Bd
  have e0 : s₁.heap = h0 := by rw [← hh, Bd.state]; rfl
  have N0 := Fr.nil n0
  have pre0 : ∀ t, Steps p.tables e below (s₁.setTop (mkF m 0 #[.val (.int p1), .val (.int p2), .val (.int p3), .val (.int p4), .unset, .unset, .unset, .unset, .unset, .unset] [])) t → Steps p.tables e below (s₁.setTop (entryFrame m #[(.int p1), (.int p2), (.int p3), (.int p4)] maxLocals)) t := fun t k => castTop (ef_0 m p1 p2 p3 p4) k
  obtain ⟨_, _, ⟨T5, L5, k5, n5⟩, -, X5, ⟨Lc5, hQ5, l5, y5, z5⟩, st5⟩ := Jvm.LawKit.callS X0 hx (y := (⟨"com/example/hydrate/hydrate/mapping/IdGeneratorOnPinLaw", "kindOf", "(I)Lcom/example/hydrate/hydrate/mapping/IdGenerator$Kind;"⟩ : MethodName)) hown (mvT hZ (hw _ (List.mem_of_getElem? (i := 0) rfl))) (mvT hZ (hw _ (List.mem_of_getElem? (i := 1) rfl))) (mvT hZ (hw _ (List.mem_of_getElem? (i := 2) rfl))) (mvT hZ (hw _ (List.mem_of_getElem? (i := 3) rfl))) (by decide) (backOf (W := 0) (rm1 l Z a0 hw [] p1 w_ASSIGNED w_SEQUENCE w_IDENTITY w_NATIVE w_k h0 n0 Z0 S_ASSIGNED S_SEQUENCE S_IDENTITY S_NATIVE hk) hZ (hw _ (List.mem_of_getElem? (i := 3) rfl)) (hw _ (List.mem_of_getElem? (i := 2) rfl)) (by decide) (by decide)) (g := (mkF m 1 #[.val (.int p1), .val (.int p2), .val (.int p3), .val (.int p4), .unset, .unset, .unset, .unset, .unset, .unset] [(.int p1)])) rfl (by rw [hml]; rfl) (argsL := [(.int p1)]) (rest := []) (lenOf pd_0_0 rfl) rfl (by show 2 * 0 + _ ≤ _; exact Nat.le_of_eq rfl) (hb hby at_1) (fun _ _ => ⟨rfl, e0, (by decide : 0 + 0 ≤ _), (by decide : 0 + 0 ≤ _)⟩)
  dsimp only [Pt.U, Pt.locs, Pt.cells, Pt.slots] at X5 l5 y5 z5 st5 hQ5
  subst l5 y5 z5
  obtain ⟨rfl, N5q, eq5⟩ := hQ5
  have N5 := Fr.app N0 N5q
  obtain ⟨_, _, ⟨T6, L6, k6, n6⟩, -, X6, ⟨Lc6, hQ6, l6, y6, z6⟩, st6⟩ := Jvm.LawKit.callS X5 hx (y := (⟨"com/example/hydrate/hydrate/mapping/IdGeneratorOnPinLaw", "dialectOf", "(I)Lcom/example/hydrate/hydrate/dialect/Dialect;"⟩ : MethodName)) hown (mvT hZ (hw _ (List.mem_of_getElem? (i := 7) rfl))) (mvT hZ (hw _ (List.mem_of_getElem? (i := 8) rfl))) (mvT hZ (hw _ (List.mem_of_getElem? (i := 2) rfl))) (mvT hZ (hw _ (List.mem_of_getElem? (i := 9) rfl))) (by decide) (backOf (W := 0) (rm2 l Z a0 hw [] p2 w_H2 w_POSTGRESQL w_MARIADB w_d h0 n0 Z0 S_H2 S_POSTGRESQL S_MARIADB hd) hZ (hw _ (List.mem_of_getElem? (i := 9) rfl)) (hw _ (List.mem_of_getElem? (i := 2) rfl)) (by decide) (by decide)) (g := (mkF m 7 #[.val (.int p1), .val (.int p2), .val (.int p3), .val (.int p4), .val (.ref w_k), .unset, .unset, .unset, .unset, .unset] [(.int p2)])) rfl (by rw [hml]; rfl) (argsL := [(.int p2)]) (rest := []) (lenOf pd_0_1 rfl) rfl (by show 2 * 0 + _ ≤ _; exact Nat.le_of_eq rfl) (hb hby at_7) (fun _ _ => ⟨rfl, eq5, (by decide : 0 + 0 ≤ _), (by decide : 0 + 0 ≤ _)⟩)
  dsimp only [Pt.U, Pt.locs, Pt.cells, Pt.slots] at X6 l6 y6 z6 st6 hQ6
  subst l6 y6 z6
  obtain ⟨rfl, N6q, eq6⟩ := hQ6
  have N6 := Fr.app N5 N6q
  obtain ⟨T7, h7, X7, e7, E7, A7, D7, -, st7⟩ := newO X6 hx hZ hown (hw _ (List.mem_of_getElem? (i := 14) rfl)) (hw _ (List.mem_of_getElem? (i := 15) rfl)) (hw _ (List.mem_of_getElem? (i := 16) rfl)) eq6 (g := (mkF m 36 #[.val (.int p1), .val (.int p2), .val (.int p3), .val (.int p4), .val (.ref w_k), .val (.ref w_d), .val .null, .unset, .unset, .unset] [])) rfl (hb hby at_36) (by decide) (by decide)
  obtain ⟨b7, g7⟩ : ∃ z, z = h0.size := ⟨_, rfl⟩      -- the fresh object's address
  rw [← g7] at A7 D7 st7      -- A7 : Exa Z h7 b7 "com/example/hydrate/hydrate/mapping/IdGenerator"; E7 : Ext h0 h7 (carries every older fact: .ext E7)
  have F_kind_b7 : Fld Z h7 b7 "com/example/hydrate/hydrate/mapping/IdGenerator" "kind" "Lcom/example/hydrate/hydrate/mapping/IdGenerator$Kind;" .null := D7 (Or.inr (hw _ (List.mem_of_getElem? (i := 29) rfl))) (ty := (.object "com/example/hydrate/hydrate/mapping/IdGenerator$Kind")) (by decide)
  have F_sequence_b7 : Fld Z h7 b7 "com/example/hydrate/hydrate/mapping/IdGenerator" "sequence" "Ljava/lang/String;" .null := D7 (Or.inr (hw _ (List.mem_of_getElem? (i := 31) rfl))) (ty := (.object "java/lang/String")) (by decide)
  have F_increment_b7 : Fld Z h7 b7 "com/example/hydrate/hydrate/mapping/IdGenerator" "increment" "I" (.int (0 : Int32)) := D7 (Or.inr (hw _ (List.mem_of_getElem? (i := 33) rfl))) (ty := .int) (by decide)
  have E_b7 := A7
  have g_b7 : n0 ≤ b7 := Nat.le_trans Z0 (Nat.le_of_eq g7.symm)
  have sz_b7 : h0.size ≤ b7 := (Nat.le_trans (Keep.refl h0 []).1 (Nat.le_of_eq g7.symm))
  have K7 : Keep h0 h7 [] := (Keep.refl h0 []).ext E7
  obtain ⟨_, _, ⟨T8, L8, k8, n8⟩, -, X8, ⟨Lc8, hQ8, l8, y8, z8⟩, st8⟩ := X7.specialBack hx (y := (⟨"com/example/hydrate/hydrate/mapping/IdGenerator", "<init>", "(Lcom/example/hydrate/hydrate/mapping/IdGenerator$Kind;Ljava/lang/String;I)V"⟩ : MethodName)) rfl hown (mvT hZ (hw _ (List.mem_of_getElem? (i := 17) rfl))) (mvT hZ (hw _ (List.mem_of_getElem? (i := 18) rfl))) (mvT hZ (hw _ (List.mem_of_getElem? (i := 19) rfl))) (by decide) (backOf (W := 1) (rm3n l Z a0 hw [] b7 w_k p3 .null .null ((.int (0 : Int32))) h7 n0 (Nat.le_trans Z0 E7.1) E_b7 F_kind_b7 g_b7 F_sequence_b7 F_increment_b7) hZ (hw _ (List.mem_of_getElem? (i := 19) rfl)) (hw _ (List.mem_of_getElem? (i := 16) rfl)) (by decide) (by decide)) (g := (mkF m 45 #[.val (.int p1), .val (.int p2), .val (.int p3), .val (.int p4), .val (.ref w_k), .val (.ref w_d), .val .null, .unset, .unset, .unset] [(.int p3), .null, (.ref w_k), (.ref b7), (.ref b7)])) rfl (by rw [hml]; rfl) (Steps.refl _) (a := b7) (argsL := [(.ref w_k), .null, (.int p3)]) (rest := [(.ref b7)]) (lenOf pd_0_2 rfl) rfl (by show 2 * 0 + _ ≤ _; exact Nat.le_of_eq rfl) (hb hby at_45) (fun _ _ => ⟨rfl, e7, (by decide : 1 + 0 ≤ _), (by decide : 3 + 0 ≤ _)⟩)
  dsimp only [Pt.U, Pt.locs, Pt.cells, Pt.slots] at X8 l8 y8 z8 st8 hQ8
  subst l8 y8 z8
  obtain ⟨rfl, N8q, Kc8, Ex8, Fk8, Fs8, Fi8⟩ := hQ8
  have N8 := Fr.app N6 N8q
  have K8 : Keep h0 T8.heap [] := K7.trans Kc8 (allS (Or.inr sz_b7) (all0))
  obtain ⟨cq9, kq9, q9a, q9b, q9c⟩ := isOf hZ rfl (E_b7.keep Kc8)
  obtain ⟨_, _, ⟨T9, L9, k9, n9⟩, -, X9, ⟨Lc9, hQ9, l9, y9, z9⟩, st9⟩ := X8.virtualBack hx (y := (⟨"com/example/hydrate/hydrate/mapping/IdGenerator", "on", "(Lcom/example/hydrate/hydrate/dialect/Dialect;)Lcom/example/hydrate/hydrate/mapping/IdGenerator$Kind;"⟩ : MethodName)) (z := (⟨"com/example/hydrate/hydrate/mapping/IdGenerator", "on", "(Lcom/example/hydrate/hydrate/dialect/Dialect;)Lcom/example/hydrate/hydrate/mapping/IdGenerator$Kind;"⟩ : MethodName)) hown (mvT hZ (hw _ (List.mem_of_getElem? (i := 34) rfl))) (mvT hZ (hw _ (List.mem_of_getElem? (i := 35) rfl))) (notFace_of_selects (args := #[]) (mvT hZ (hw _ (List.mem_of_getElem? (i := 37) rfl)))) (mvT hZ (hw _ (List.mem_of_getElem? (i := 37) rfl))) (mvT hZ (hw _ (List.mem_of_getElem? (i := 36) rfl))) (by decide) (backOf (W := 0) (rm6_t l Z a0 hw [] b7 w_d w_ASSIGNED w_SEQUENCE w_IDENTITY w_NATIVE w_k T8.heap n0 (Nat.le_trans (Nat.le_trans Z0 E7.1) Kc8.1) (own_stak1 (S_ASSIGNED.ext E7) Kc8 E_b7) (own_stak1 (S_SEQUENCE.ext E7) Kc8 E_b7) (own_stak1 (S_IDENTITY.ext E7) Kc8 E_b7) (own_stak1 (S_NATIVE.ext E7) Kc8 E_b7) Fk8 hn) hZ (hw _ (List.mem_of_getElem? (i := 38) rfl)) (hw _ (List.mem_of_getElem? (i := 16) rfl)) (by decide) (by decide)) q9a q9c (g := (mkF m 54 #[.val (.int p1), .val (.int p2), .val (.int p3), .val (.int p4), .val (.ref w_k), .val (.ref w_d), .val .null, .val (.ref b7), .unset, .unset] [(.ref w_d), (.ref b7)])) rfl (by rw [hml]; rfl) (Steps.refl _) (argsL := [(.ref w_d)]) (rest := []) (lenOf pd_0_4 rfl) rfl (by show 2 * 0 + _ ≤ _; exact Nat.le_of_eq rfl) (hb hby at_54) (fun _ _ => ⟨rfl, rfl, (by decide : 1 + 0 ≤ _), (by decide : 3 + 0 ≤ _)⟩)
  dsimp only [Pt.U, Pt.locs, Pt.cells, Pt.slots] at X9 l9 y9 z9 st9 hQ9
  subst l9 y9 z9
  obtain ⟨rfl, N9q, eq9⟩ := hQ9
  have N9 := Fr.app N8 N9q
  obtain ⟨T10, X10, e10, st10⟩ := getS2 X9 hx hZ hown (host := "") (Or.inl (hw _ (List.mem_of_getElem? (i := 41) rfl))) Via.refl eq9 (own_stak1 (S_NATIVE.ext E7) Kc8 E_b7) (g := (mkF m 61 #[.val (.int p1), .val (.int p2), .val (.int p3), .val (.int p4), .val (.ref w_k), .val (.ref w_d), .val .null, .val (.ref b7), .val (.ref w_k), .unset] [(.ref w_k)])) rfl (hb hby at_61)
  obtain ⟨cq11, kq11, q11a, q11b, q11c⟩ := isOf hZ e10 (E_b7.keep Kc8)
  obtain ⟨_, _, ⟨T11, L11, k11, n11⟩, -, X11, ⟨Lc11, hQ11, l11, y11, z11⟩, st11⟩ := X10.virtualBack hx (y := (⟨"com/example/hydrate/hydrate/mapping/IdGenerator", "kind", "()Lcom/example/hydrate/hydrate/mapping/IdGenerator$Kind;"⟩ : MethodName)) (z := (⟨"com/example/hydrate/hydrate/mapping/IdGenerator", "kind", "()Lcom/example/hydrate/hydrate/mapping/IdGenerator$Kind;"⟩ : MethodName)) hown (mvT hZ (hw _ (List.mem_of_getElem? (i := 42) rfl))) (mvT hZ (hw _ (List.mem_of_getElem? (i := 43) rfl))) (notFace_of_selects (args := #[]) (mvT hZ (hw _ (List.mem_of_getElem? (i := 45) rfl)))) (mvT hZ (hw _ (List.mem_of_getElem? (i := 45) rfl))) (mvT hZ (hw _ (List.mem_of_getElem? (i := 44) rfl))) (by decide) (backOf (W := 0) (rm7 l Z a0 hw [] b7 w_k T8.heap n0 (Nat.le_trans (Nat.le_trans Z0 E7.1) Kc8.1) Fk8) hZ (hw _ (List.mem_of_getElem? (i := 46) rfl)) (hw _ (List.mem_of_getElem? (i := 16) rfl)) (by decide) (by decide)) q11a q11c (g := (mkF m 104 #[.val (.int p1), .val (.int p2), .val (.int p3), .val (.int p4), .val (.ref w_k), .val (.ref w_d), .val .null, .val (.ref b7), .val (.ref w_k), .val (.ref w_k)] [(.ref b7)])) rfl (by rw [hml]; rfl) (Steps.refl _) (argsL := []) (rest := []) (lenOf pd_0_5 rfl) rfl (by show 2 * 0 + _ ≤ _; exact Nat.le_of_eq rfl) (hb hby at_104) (fun _ _ => ⟨rfl, e10, (by decide : 1 + 0 ≤ _), (by decide : 3 + 0 ≤ _)⟩)
  dsimp only [Pt.U, Pt.locs, Pt.cells, Pt.slots] at X11 l11 y11 z11 st11 hQ11
  subst l11 y11 z11
  obtain ⟨rfl, N11q, eq11⟩ := hQ11
  have N11 := Fr.app N9 N11q
  obtain ⟨fs, hr, hrun, hended, hW, hsame⟩ := X11.leave (v := some (.int (1 : Int32))) (fun h => by rw [Bd.returns] at h; cases h)
  refine ⟨_, _, pre0 _ ?_, hrun, hended, _, _, rfl, ?_, ⟨_, rfl⟩, hW, hsame.mono (by decide) (by decide)⟩
  · show Steps p.tables e below (s₁.setTop (mkF m 0 #[.val (.int p1), .val (.int p2), .val (.int p3), .val (.int p4), .unset, .unset, .unset, .unset, .unset, .unset] [])) _
    refine XS.iloadN X0.here hx rfl (hb hby at_0) rfl ?_
    show Steps p.tables e below (s₁.setTop (mkF m 1 #[.val (.int p1), .val (.int p2), .val (.int p3), .val (.int p4), .unset, .unset, .unset, .unset, .unset, .unset] [(.int p1)])) _
    refine st5 _ ?_
    show Steps p.tables e below (T5.setTop (mkF m 4 #[.val (.int p1), .val (.int p2), .val (.int p3), .val (.int p4), .unset, .unset, .unset, .unset, .unset, .unset] [(.ref w_k)])) _
    refine XS.astore X5.here hx rfl (hb hby at_4) rfl rfl (l' := #[.val (.int p1), .val (.int p2), .val (.int p3), .val (.int p4), .val (.ref w_k), .unset, .unset, .unset, .unset, .unset]) rfl ?_
    show Steps p.tables e below (T5.setTop (mkF m 6 #[.val (.int p1), .val (.int p2), .val (.int p3), .val (.int p4), .val (.ref w_k), .unset, .unset, .unset, .unset, .unset] [])) _
    refine XS.iloadN X5.here hx rfl (hb hby at_6) rfl ?_
    show Steps p.tables e below (T5.setTop (mkF m 7 #[.val (.int p1), .val (.int p2), .val (.int p3), .val (.int p4), .val (.ref w_k), .unset, .unset, .unset, .unset, .unset] [(.int p2)])) _
    refine st6 _ ?_
    show Steps p.tables e below (T6.setTop (mkF m 10 #[.val (.int p1), .val (.int p2), .val (.int p3), .val (.int p4), .val (.ref w_k), .unset, .unset, .unset, .unset, .unset] [(.ref w_d)])) _
    refine XS.astore X6.here hx rfl (hb hby at_10) rfl rfl (l' := #[.val (.int p1), .val (.int p2), .val (.int p3), .val (.int p4), .val (.ref w_k), .val (.ref w_d), .unset, .unset, .unset, .unset]) rfl ?_
    show Steps p.tables e below (T6.setTop (mkF m 12 #[.val (.int p1), .val (.int p2), .val (.int p3), .val (.int p4), .val (.ref w_k), .val (.ref w_d), .unset, .unset, .unset, .unset] [])) _
    refine XS.iloadN X6.here hx rfl (hb hby at_12) rfl ?_
    show Steps p.tables e below (T6.setTop (mkF m 13 #[.val (.int p1), .val (.int p2), .val (.int p3), .val (.int p4), .val (.ref w_k), .val (.ref w_d), .unset, .unset, .unset, .unset] [(.int p4)])) _
    refine XS.bipush X6.here hx rfl (hb hby at_13) ?_
    show Steps p.tables e below (T6.setTop (mkF m 15 #[.val (.int p1), .val (.int p2), .val (.int p3), .val (.int p4), .val (.ref w_k), .val (.ref w_d), .unset, .unset, .unset, .unset] [(.int (8 : Int32)), (.int p4)])) _
    refine XS.iushr X6.here hx rfl (hb hby at_15) rfl ?_
    show Steps p.tables e below (T6.setTop (mkF m 16 #[.val (.int p1), .val (.int p2), .val (.int p3), .val (.int p4), .val (.ref w_k), .val (.ref w_d), .unset, .unset, .unset, .unset] [(.int ((p4.toUInt32 >>> ((8 : Int32) &&& 31).toUInt32).toInt32))])) _
    refine XS.iconst X6.here hx rfl (hb hby at_16) ?_
    show Steps p.tables e below (T6.setTop (mkF m 17 #[.val (.int p1), .val (.int p2), .val (.int p3), .val (.int p4), .val (.ref w_k), .val (.ref w_d), .unset, .unset, .unset, .unset] [(.int (1 : Int32)), (.int ((p4.toUInt32 >>> ((8 : Int32) &&& 31).toUInt32).toInt32))])) _
    refine XS.iand X6.here hx rfl (hb hby at_17) rfl ?_
    show Steps p.tables e below (T6.setTop (mkF m 18 #[.val (.int p1), .val (.int p2), .val (.int p3), .val (.int p4), .val (.ref w_k), .val (.ref w_d), .unset, .unset, .unset, .unset] [(.int (((p4.toUInt32 >>> ((8 : Int32) &&& 31).toUInt32).toInt32) &&& (1 : Int32)))])) _
    refine XS.ifYes X6.here hx rfl (pc0 := 18) (pc' := 33) rfl (hb hby at_18) rfl ((if0 _ _).trans (teq hc18).1) (by decide) (by decide) ?_
    show Steps p.tables e below (T6.setTop (mkF m 33 #[.val (.int p1), .val (.int p2), .val (.int p3), .val (.int p4), .val (.ref w_k), .val (.ref w_d), .unset, .unset, .unset, .unset] [])) _
    refine XS.aconstNull X6.here hx rfl (hb hby at_33) ?_
    show Steps p.tables e below (T6.setTop (mkF m 34 #[.val (.int p1), .val (.int p2), .val (.int p3), .val (.int p4), .val (.ref w_k), .val (.ref w_d), .unset, .unset, .unset, .unset] [.null])) _
    refine XS.astore X6.here hx rfl (hb hby at_34) rfl rfl (l' := #[.val (.int p1), .val (.int p2), .val (.int p3), .val (.int p4), .val (.ref w_k), .val (.ref w_d), .val .null, .unset, .unset, .unset]) rfl ?_
    show Steps p.tables e below (T6.setTop (mkF m 36 #[.val (.int p1), .val (.int p2), .val (.int p3), .val (.int p4), .val (.ref w_k), .val (.ref w_d), .val .null, .unset, .unset, .unset] [])) _
    refine st7 _ ?_
    show Steps p.tables e below (T7.setTop (mkF m 39 #[.val (.int p1), .val (.int p2), .val (.int p3), .val (.int p4), .val (.ref w_k), .val (.ref w_d), .val .null, .unset, .unset, .unset] [(.ref b7)])) _
    refine XS.dup X7.here hx rfl (hb hby at_39) rfl rfl ?_
    show Steps p.tables e below (T7.setTop (mkF m 40 #[.val (.int p1), .val (.int p2), .val (.int p3), .val (.int p4), .val (.ref w_k), .val (.ref w_d), .val .null, .unset, .unset, .unset] [(.ref b7), (.ref b7)])) _
    refine XS.aload X7.here hx rfl (hb hby at_40) rfl rfl ?_
    show Steps p.tables e below (T7.setTop (mkF m 42 #[.val (.int p1), .val (.int p2), .val (.int p3), .val (.int p4), .val (.ref w_k), .val (.ref w_d), .val .null, .unset, .unset, .unset] [(.ref w_k), (.ref b7), (.ref b7)])) _
    refine XS.aload X7.here hx rfl (hb hby at_42) rfl rfl ?_
    show Steps p.tables e below (T7.setTop (mkF m 44 #[.val (.int p1), .val (.int p2), .val (.int p3), .val (.int p4), .val (.ref w_k), .val (.ref w_d), .val .null, .unset, .unset, .unset] [.null, (.ref w_k), (.ref b7), (.ref b7)])) _
    refine XS.iloadN X7.here hx rfl (hb hby at_44) rfl ?_
    show Steps p.tables e below (T7.setTop (mkF m 45 #[.val (.int p1), .val (.int p2), .val (.int p3), .val (.int p4), .val (.ref w_k), .val (.ref w_d), .val .null, .unset, .unset, .unset] [(.int p3), .null, (.ref w_k), (.ref b7), (.ref b7)])) _
    refine st8.trans ?_
    show Steps p.tables e below (T8.setTop (mkF m 48 #[.val (.int p1), .val (.int p2), .val (.int p3), .val (.int p4), .val (.ref w_k), .val (.ref w_d), .val .null, .unset, .unset, .unset] [(.ref b7)])) _
    refine XS.astore X8.here hx rfl (hb hby at_48) rfl rfl (l' := #[.val (.int p1), .val (.int p2), .val (.int p3), .val (.int p4), .val (.ref w_k), .val (.ref w_d), .val .null, .val (.ref b7), .unset, .unset]) rfl ?_
    show Steps p.tables e below (T8.setTop (mkF m 50 #[.val (.int p1), .val (.int p2), .val (.int p3), .val (.int p4), .val (.ref w_k), .val (.ref w_d), .val .null, .val (.ref b7), .unset, .unset] [])) _
    refine XS.aload X8.here hx rfl (hb hby at_50) rfl rfl ?_
    show Steps p.tables e below (T8.setTop (mkF m 52 #[.val (.int p1), .val (.int p2), .val (.int p3), .val (.int p4), .val (.ref w_k), .val (.ref w_d), .val .null, .val (.ref b7), .unset, .unset] [(.ref b7)])) _
    refine XS.aload X8.here hx rfl (hb hby at_52) rfl rfl ?_
    show Steps p.tables e below (T8.setTop (mkF m 54 #[.val (.int p1), .val (.int p2), .val (.int p3), .val (.int p4), .val (.ref w_k), .val (.ref w_d), .val .null, .val (.ref b7), .unset, .unset] [(.ref w_d), (.ref b7)])) _
    refine st9.trans ?_
    show Steps p.tables e below (T9.setTop (mkF m 57 #[.val (.int p1), .val (.int p2), .val (.int p3), .val (.int p4), .val (.ref w_k), .val (.ref w_d), .val .null, .val (.ref b7), .unset, .unset] [(.ref w_k)])) _
    refine XS.astore X9.here hx rfl (hb hby at_57) rfl rfl (l' := #[.val (.int p1), .val (.int p2), .val (.int p3), .val (.int p4), .val (.ref w_k), .val (.ref w_d), .val .null, .val (.ref b7), .val (.ref w_k), .unset]) rfl ?_
    show Steps p.tables e below (T9.setTop (mkF m 59 #[.val (.int p1), .val (.int p2), .val (.int p3), .val (.int p4), .val (.ref w_k), .val (.ref w_d), .val .null, .val (.ref b7), .val (.ref w_k), .unset] [])) _
    refine XS.aload X9.here hx rfl (hb hby at_59) rfl rfl ?_
    show Steps p.tables e below (T9.setTop (mkF m 61 #[.val (.int p1), .val (.int p2), .val (.int p3), .val (.int p4), .val (.ref w_k), .val (.ref w_d), .val .null, .val (.ref b7), .val (.ref w_k), .unset] [(.ref w_k)])) _
    refine st10 _ ?_
    show Steps p.tables e below (T10.setTop (mkF m 64 #[.val (.int p1), .val (.int p2), .val (.int p3), .val (.int p4), .val (.ref w_k), .val (.ref w_d), .val .null, .val (.ref b7), .val (.ref w_k), .unset] [(.ref w_NATIVE), (.ref w_k)])) _
    refine Jvm.RoadKit.acmp (g := (mkF m 64 #[.val (.int p1), .val (.int p2), .val (.int p3), .val (.int p4), .val (.ref w_k), .val (.ref w_d), .val .null, .val (.ref b7), .val (.ref w_k), .unset] [(.ref w_NATIVE), (.ref w_k)])) X10 hx rfl rfl rfl (pc0 := 64) (pc' := 67) (same := false) rfl (hb hby at_64) rfl (decide_eq_false fun q => ha64 (Value.ref.inj q)) (by decide) (by decide) ?_
    show Steps p.tables e below (T10.setTop (mkF m 67 #[.val (.int p1), .val (.int p2), .val (.int p3), .val (.int p4), .val (.ref w_k), .val (.ref w_d), .val .null, .val (.ref b7), .val (.ref w_k), .unset] [])) _
    refine XS.aload X10.here hx rfl (hb hby at_67) rfl rfl ?_
    show Steps p.tables e below (T10.setTop (mkF m 69 #[.val (.int p1), .val (.int p2), .val (.int p3), .val (.int p4), .val (.ref w_k), .val (.ref w_d), .val .null, .val (.ref b7), .val (.ref w_k), .unset] [(.ref w_k)])) _
    refine XS.astore X10.here hx rfl (hb hby at_69) rfl rfl (l' := #[.val (.int p1), .val (.int p2), .val (.int p3), .val (.int p4), .val (.ref w_k), .val (.ref w_d), .val .null, .val (.ref b7), .val (.ref w_k), .val (.ref w_k)]) rfl ?_
    show Steps p.tables e below (T10.setTop (mkF m 71 #[.val (.int p1), .val (.int p2), .val (.int p3), .val (.int p4), .val (.ref w_k), .val (.ref w_d), .val .null, .val (.ref b7), .val (.ref w_k), .val (.ref w_k)] [])) _
    refine XS.goto X10.here hx rfl (pc0 := 71) (pc' := 95) rfl (hb hby at_71) (by decide) (by decide) ?_
    show Steps p.tables e below (T10.setTop (mkF m 95 #[.val (.int p1), .val (.int p2), .val (.int p3), .val (.int p4), .val (.ref w_k), .val (.ref w_d), .val .null, .val (.ref b7), .val (.ref w_k), .val (.ref w_k)] [])) _
    refine XS.aload X10.here hx rfl (hb hby at_95) rfl rfl ?_
    show Steps p.tables e below (T10.setTop (mkF m 97 #[.val (.int p1), .val (.int p2), .val (.int p3), .val (.int p4), .val (.ref w_k), .val (.ref w_d), .val .null, .val (.ref b7), .val (.ref w_k), .val (.ref w_k)] [(.ref w_k)])) _
    refine XS.aload X10.here hx rfl (hb hby at_97) rfl rfl ?_
    show Steps p.tables e below (T10.setTop (mkF m 99 #[.val (.int p1), .val (.int p2), .val (.int p3), .val (.int p4), .val (.ref w_k), .val (.ref w_d), .val .null, .val (.ref b7), .val (.ref w_k), .val (.ref w_k)] [(.ref w_k), (.ref w_k)])) _
    refine Jvm.RoadKit.acmp (g := (mkF m 99 #[.val (.int p1), .val (.int p2), .val (.int p3), .val (.int p4), .val (.ref w_k), .val (.ref w_d), .val .null, .val (.ref b7), .val (.ref w_k), .val (.ref w_k)] [(.ref w_k), (.ref w_k)])) X10 hx rfl rfl rfl (pc0 := 99) (pc' := 102) (same := true) rfl (hb hby at_99) rfl (decide_eq_true rfl) (by decide) (by decide) ?_
    show Steps p.tables e below (T10.setTop (mkF m 102 #[.val (.int p1), .val (.int p2), .val (.int p3), .val (.int p4), .val (.ref w_k), .val (.ref w_d), .val .null, .val (.ref b7), .val (.ref w_k), .val (.ref w_k)] [])) _
    refine XS.aload X10.here hx rfl (hb hby at_102) rfl rfl ?_
    show Steps p.tables e below (T10.setTop (mkF m 104 #[.val (.int p1), .val (.int p2), .val (.int p3), .val (.int p4), .val (.ref w_k), .val (.ref w_d), .val .null, .val (.ref b7), .val (.ref w_k), .val (.ref w_k)] [(.ref b7)])) _
    refine st11.trans ?_
    show Steps p.tables e below (T11.setTop (mkF m 107 #[.val (.int p1), .val (.int p2), .val (.int p3), .val (.int p4), .val (.ref w_k), .val (.ref w_d), .val .null, .val (.ref b7), .val (.ref w_k), .val (.ref w_k)] [(.ref w_k)])) _
    refine XS.aload X11.here hx rfl (hb hby at_107) rfl rfl ?_
    show Steps p.tables e below (T11.setTop (mkF m 109 #[.val (.int p1), .val (.int p2), .val (.int p3), .val (.int p4), .val (.ref w_k), .val (.ref w_d), .val .null, .val (.ref b7), .val (.ref w_k), .val (.ref w_k)] [(.ref w_k), (.ref w_k)])) _
    refine Jvm.RoadKit.acmp (g := (mkF m 109 #[.val (.int p1), .val (.int p2), .val (.int p3), .val (.int p4), .val (.ref w_k), .val (.ref w_d), .val .null, .val (.ref b7), .val (.ref w_k), .val (.ref w_k)] [(.ref w_k), (.ref w_k)])) X11 hx rfl rfl rfl (pc0 := 109) (pc' := 112) (same := true) rfl (hb hby at_109) rfl (decide_eq_true rfl) (by decide) (by decide) ?_
    show Steps p.tables e below (T11.setTop (mkF m 112 #[.val (.int p1), .val (.int p2), .val (.int p3), .val (.int p4), .val (.ref w_k), .val (.ref w_d), .val .null, .val (.ref b7), .val (.ref w_k), .val (.ref w_k)] [])) _
    refine XS.iconst X11.here hx rfl (hb hby at_112) ?_
    show Steps p.tables e below (T11.setTop (mkF m 113 #[.val (.int p1), .val (.int p2), .val (.int p3), .val (.int p4), .val (.ref w_k), .val (.ref w_d), .val .null, .val (.ref b7), .val (.ref w_k), .val (.ref w_k)] [(.int (1 : Int32))])) _
    refine XS.goto X11.here hx rfl (pc0 := 113) (pc' := 117) rfl (hb hby at_113) (by decide) (by decide) ?_
    show Steps p.tables e below (T11.setTop (mkF m 117 #[.val (.int p1), .val (.int p2), .val (.int p3), .val (.int p4), .val (.ref w_k), .val (.ref w_d), .val .null, .val (.ref b7), .val (.ref w_k), .val (.ref w_k)] [(.int (1 : Int32))])) _
    exact retN X11 hx (t := .boolean) Bd.returns (by simp) (hb hby at_117) hr
  · show QL (some (.int (1 : Int32))) n0 _ T11.heap _
    rw [eq11]
    exact ⟨rfl, N11⟩

set_option maxRecDepth 65536 in
set_option maxHeartbeats 40000000 in
theorem rm0_t1 (l : Launch) (Z : State) (a0 : Array Value) (hw : ∀ d ∈ tables_1, d.before a0 Z = true) (ws : List Jvm.Cond) (p1 : Int32) (p2 : Int32) (p3 : Int32) (p4 : Int32) (w_ASSIGNED : Addr) (w_SEQUENCE : Addr) (w_IDENTITY : Addr) (w_NATIVE : Addr) (w_H2 : Addr) (w_POSTGRESQL : Addr) (w_MARIADB : Addr) (w_d : Addr) (w_COMPACT_STRINGS : Int32) (h0 : Heap) (n0 : Nat) (Z0 : n0 ≤ h0.size) (S_ASSIGNED : Sta Z h0 "com/example/hydrate/hydrate/mapping/IdGenerator$Kind" "ASSIGNED" "Lcom/example/hydrate/hydrate/mapping/IdGenerator$Kind;" (.ref w_ASSIGNED)) (S_SEQUENCE : Sta Z h0 "com/example/hydrate/hydrate/mapping/IdGenerator$Kind" "SEQUENCE" "Lcom/example/hydrate/hydrate/mapping/IdGenerator$Kind;" (.ref w_SEQUENCE)) (S_IDENTITY : Sta Z h0 "com/example/hydrate/hydrate/mapping/IdGenerator$Kind" "IDENTITY" "Lcom/example/hydrate/hydrate/mapping/IdGenerator$Kind;" (.ref w_IDENTITY)) (S_NATIVE : Sta Z h0 "com/example/hydrate/hydrate/mapping/IdGenerator$Kind" "NATIVE" "Lcom/example/hydrate/hydrate/mapping/IdGenerator$Kind;" (.ref w_NATIVE)) (S_H2 : Sta Z h0 "com/example/hydrate/hydrate/dialect/Dialect" "H2" "Lcom/example/hydrate/hydrate/dialect/Dialect;" (.ref w_H2)) (S_POSTGRESQL : Sta Z h0 "com/example/hydrate/hydrate/dialect/Dialect" "POSTGRESQL" "Lcom/example/hydrate/hydrate/dialect/Dialect;" (.ref w_POSTGRESQL)) (S_MARIADB : Sta Z h0 "com/example/hydrate/hydrate/dialect/Dialect" "MARIADB" "Lcom/example/hydrate/hydrate/dialect/Dialect;" (.ref w_MARIADB)) (E_w_d : Exa Z h0 w_d "com/example/hydrate/hydrate/dialect/Dialect$1") (hk : Kd (p1 &&& (3 : Int32)) w_NATIVE w_ASSIGNED w_SEQUENCE w_IDENTITY w_NATIVE) (hd : Dl (HMod.hMod (p2 &&& (2147483647 : Int32)) (3 : Int32)) w_d w_H2 w_POSTGRESQL w_MARIADB) (hcs : ¬ (w_COMPACT_STRINGS = (0 : Int32))) (S_COMPACT_STRINGS : Sta Z h0 "java/lang/String" "COMPACT_STRINGS" "Z" (.int w_COMPACT_STRINGS)) (F_nativeSequences_w_d : Fld Z h0 w_d "com/example/hydrate/hydrate/dialect/Dialect" "nativeSequences" "Z" (.int (1 : Int32))) (hc18 : (((p4.toUInt32 >>> ((8 : Int32) &&& 31).toUInt32).toInt32) &&& (1 : Int32)) = (0 : Int32)) (hc79 : ¬ ((1 : Int32) = (0 : Int32))) :
    MetFree l x (head1 (Jvm.Cond.code x code maxLocals ret :: ws) room_1) (fun a U => a = #[(.int p1), (.int p2), (.int p3), (.int p4)] ∧ Z.Warmed39 U.vm ∧ U.heap = h0) (fun _ _ _ _ _ => True) (fun _ U o U' => ∃ v L, o = .returned v ∧ QL (some (.int (1 : Int32))) n0 v U'.heap L ∧ FrameEnd U o U' L room_1.cells room_1.slots) := by
  refine MetFree.of_bodySF (plainFor_of_name pn_0) hisR ?_
  intro p e s m args below meth c s₁ Bd hml0 hP hK
  obtain ⟨rfl, hZ, hh⟩ := hP
  have hx := Bd.exec
  have hby := Bd.bytes
  have hml : c.maxLocals = 10 := hml0
  have hown : s.vm.findClass "com/example/hydrate/hydrate/mapping/IdGeneratorOnPinLaw" = some m.cls := findClass_of_methodNamed Bd.named
  have hnm := (name_of_methodNamed Bd.named Bd.method).1
  have X0 : Stand p l e room_1 s m #[(.int p1), (.int p2), (.int p3), (.int p4)] below meth c s₁ [] 0 0 := Stand.of_body Bd
  have e0 : s₁.heap = h0 := by rw [← hh, Bd.state]; rfl
  have N0 := Fr.nil n0
  have pre0 : ∀ t, Steps p.tables e below (s₁.setTop (mkF m 0 #[.val (.int p1), .val (.int p2), .val (.int p3), .val (.int p4), .unset, .unset, .unset, .unset, .unset, .unset] [])) t → Steps p.tables e below (s₁.setTop (entryFrame m #[(.int p1), (.int p2), (.int p3), (.int p4)] maxLocals)) t := fun t k => castTop (ef_0 m p1 p2 p3 p4) k
  obtain ⟨_, _, ⟨T5, L5, k5, n5⟩, -, X5, ⟨Lc5, hQ5, l5, y5, z5⟩, st5⟩ := Jvm.LawKit.callS X0 hx (y := (⟨"com/example/hydrate/hydrate/mapping/IdGeneratorOnPinLaw", "kindOf", "(I)Lcom/example/hydrate/hydrate/mapping/IdGenerator$Kind;"⟩ : MethodName)) hown (mvT hZ (hw _ (List.mem_of_getElem? (i := 0) rfl))) (mvT hZ (hw _ (List.mem_of_getElem? (i := 1) rfl))) (mvT hZ (hw _ (List.mem_of_getElem? (i := 2) rfl))) (mvT hZ (hw _ (List.mem_of_getElem? (i := 3) rfl))) (by decide) (backOf (W := 0) (rm1 l Z a0 hw [] p1 w_ASSIGNED w_SEQUENCE w_IDENTITY w_NATIVE w_NATIVE h0 n0 Z0 S_ASSIGNED S_SEQUENCE S_IDENTITY S_NATIVE hk) hZ (hw _ (List.mem_of_getElem? (i := 3) rfl)) (hw _ (List.mem_of_getElem? (i := 2) rfl)) (by decide) (by decide)) (g := (mkF m 1 #[.val (.int p1), .val (.int p2), .val (.int p3), .val (.int p4), .unset, .unset, .unset, .unset, .unset, .unset] [(.int p1)])) rfl (by rw [hml]; rfl) (argsL := [(.int p1)]) (rest := []) (lenOf pd_0_0 rfl) rfl (by show 2 * 0 + _ ≤ _; exact Nat.le_of_eq rfl) (hb hby at_1) (fun _ _ => ⟨rfl, e0, (by decide : 0 + 0 ≤ _), (by decide : 0 + 0 ≤ _)⟩)
  dsimp only [Pt.U, Pt.locs, Pt.cells, Pt.slots] at X5 l5 y5 z5 st5 hQ5
  subst l5 y5 z5
  obtain ⟨rfl, N5q, eq5⟩ := hQ5
  have N5 := Fr.app N0 N5q
  obtain ⟨_, _, ⟨T6, L6, k6, n6⟩, -, X6, ⟨Lc6, hQ6, l6, y6, z6⟩, st6⟩ := Jvm.LawKit.callS X5 hx (y := (⟨"com/example/hydrate/hydrate/mapping/IdGeneratorOnPinLaw", "dialectOf", "(I)Lcom/example/hydrate/hydrate/dialect/Dialect;"⟩ : MethodName)) hown (mvT hZ (hw _ (List.mem_of_getElem? (i := 7) rfl))) (mvT hZ (hw _ (List.mem_of_getElem? (i := 8) rfl))) (mvT hZ (hw _ (List.mem_of_getElem? (i := 2) rfl))) (mvT hZ (hw _ (List.mem_of_getElem? (i := 9) rfl))) (by decide) (backOf (W := 0) (rm2 l Z a0 hw [] p2 w_H2 w_POSTGRESQL w_MARIADB w_d h0 n0 Z0 S_H2 S_POSTGRESQL S_MARIADB hd) hZ (hw _ (List.mem_of_getElem? (i := 9) rfl)) (hw _ (List.mem_of_getElem? (i := 2) rfl)) (by decide) (by decide)) (g := (mkF m 7 #[.val (.int p1), .val (.int p2), .val (.int p3), .val (.int p4), .val (.ref w_NATIVE), .unset, .unset, .unset, .unset, .unset] [(.int p2)])) rfl (by rw [hml]; rfl) (argsL := [(.int p2)]) (rest := []) (lenOf pd_0_1 rfl) rfl (by show 2 * 0 + _ ≤ _; exact Nat.le_of_eq rfl) (hb hby at_7) (fun _ _ => ⟨rfl, eq5, (by decide : 0 + 0 ≤ _), (by decide : 0 + 0 ≤ _)⟩)
  dsimp only [Pt.U, Pt.locs, Pt.cells, Pt.slots] at X6 l6 y6 z6 st6 hQ6
  subst l6 y6 z6
  obtain ⟨rfl, N6q, eq6⟩ := hQ6
  have N6 := Fr.app N5 N6q
  obtain ⟨T7, h7, X7, e7, E7, A7, D7, -, st7⟩ := newO X6 hx hZ hown (hw _ (List.mem_of_getElem? (i := 14) rfl)) (hw _ (List.mem_of_getElem? (i := 15) rfl)) (hw _ (List.mem_of_getElem? (i := 16) rfl)) eq6 (g := (mkF m 36 #[.val (.int p1), .val (.int p2), .val (.int p3), .val (.int p4), .val (.ref w_NATIVE), .val (.ref w_d), .val .null, .unset, .unset, .unset] [])) rfl (hb hby at_36) (by decide) (by decide)
  obtain ⟨b7, g7⟩ : ∃ z, z = h0.size := ⟨_, rfl⟩      -- the fresh object's address
  rw [← g7] at A7 D7 st7      -- A7 : Exa Z h7 b7 "com/example/hydrate/hydrate/mapping/IdGenerator"; E7 : Ext h0 h7 (carries every older fact: .ext E7)
  have F_kind_b7 : Fld Z h7 b7 "com/example/hydrate/hydrate/mapping/IdGenerator" "kind" "Lcom/example/hydrate/hydrate/mapping/IdGenerator$Kind;" .null := D7 (Or.inr (hw _ (List.mem_of_getElem? (i := 29) rfl))) (ty := (.object "com/example/hydrate/hydrate/mapping/IdGenerator$Kind")) (by decide)
  have F_sequence_b7 : Fld Z h7 b7 "com/example/hydrate/hydrate/mapping/IdGenerator" "sequence" "Ljava/lang/String;" .null := D7 (Or.inr (hw _ (List.mem_of_getElem? (i := 31) rfl))) (ty := (.object "java/lang/String")) (by decide)
  have F_increment_b7 : Fld Z h7 b7 "com/example/hydrate/hydrate/mapping/IdGenerator" "increment" "I" (.int (0 : Int32)) := D7 (Or.inr (hw _ (List.mem_of_getElem? (i := 33) rfl))) (ty := .int) (by decide)
  have E_b7 := A7
  have g_b7 : n0 ≤ b7 := Nat.le_trans Z0 (Nat.le_of_eq g7.symm)
  have sz_b7 : h0.size ≤ b7 := (Nat.le_trans (Keep.refl h0 []).1 (Nat.le_of_eq g7.symm))
  have K7 : Keep h0 h7 [] := (Keep.refl h0 []).ext E7
  obtain ⟨_, _, ⟨T8, L8, k8, n8⟩, -, X8, ⟨Lc8, hQ8, l8, y8, z8⟩, st8⟩ := X7.specialBack hx (y := (⟨"com/example/hydrate/hydrate/mapping/IdGenerator", "<init>", "(Lcom/example/hydrate/hydrate/mapping/IdGenerator$Kind;Ljava/lang/String;I)V"⟩ : MethodName)) rfl hown (mvT hZ (hw _ (List.mem_of_getElem? (i := 17) rfl))) (mvT hZ (hw _ (List.mem_of_getElem? (i := 18) rfl))) (mvT hZ (hw _ (List.mem_of_getElem? (i := 19) rfl))) (by decide) (backOf (W := 1) (rm3n l Z a0 hw [] b7 w_NATIVE p3 .null .null ((.int (0 : Int32))) h7 n0 (Nat.le_trans Z0 E7.1) E_b7 F_kind_b7 g_b7 F_sequence_b7 F_increment_b7) hZ (hw _ (List.mem_of_getElem? (i := 19) rfl)) (hw _ (List.mem_of_getElem? (i := 16) rfl)) (by decide) (by decide)) (g := (mkF m 45 #[.val (.int p1), .val (.int p2), .val (.int p3), .val (.int p4), .val (.ref w_NATIVE), .val (.ref w_d), .val .null, .unset, .unset, .unset] [(.int p3), .null, (.ref w_NATIVE), (.ref b7), (.ref b7)])) rfl (by rw [hml]; rfl) (Steps.refl _) (a := b7) (argsL := [(.ref w_NATIVE), .null, (.int p3)]) (rest := [(.ref b7)]) (lenOf pd_0_2 rfl) rfl (by show 2 * 0 + _ ≤ _; exact Nat.le_of_eq rfl) (hb hby at_45) (fun _ _ => ⟨rfl, e7, (by decide : 1 + 0 ≤ _), (by decide : 3 + 0 ≤ _)⟩)
  dsimp only [Pt.U, Pt.locs, Pt.cells, Pt.slots] at X8 l8 y8 z8 st8 hQ8
  subst l8 y8 z8
  obtain ⟨rfl, N8q, Kc8, Ex8, Fk8, Fs8, Fi8⟩ := hQ8
  have N8 := Fr.app N6 N8q
  have K8 : Keep h0 T8.heap [] := K7.trans Kc8 (allS (Or.inr sz_b7) (all0))
  obtain ⟨cq9, kq9, q9a, q9b, q9c⟩ := isOf hZ rfl (E_b7.keep Kc8)
  obtain ⟨_, _, ⟨T9, L9, k9, n9⟩, -, X9, ⟨Lc9, hQ9, l9, y9, z9⟩, st9⟩ := X8.virtualBack hx (y := (⟨"com/example/hydrate/hydrate/mapping/IdGenerator", "on", "(Lcom/example/hydrate/hydrate/dialect/Dialect;)Lcom/example/hydrate/hydrate/mapping/IdGenerator$Kind;"⟩ : MethodName)) (z := (⟨"com/example/hydrate/hydrate/mapping/IdGenerator", "on", "(Lcom/example/hydrate/hydrate/dialect/Dialect;)Lcom/example/hydrate/hydrate/mapping/IdGenerator$Kind;"⟩ : MethodName)) hown (mvT hZ (hw _ (List.mem_of_getElem? (i := 34) rfl))) (mvT hZ (hw _ (List.mem_of_getElem? (i := 35) rfl))) (notFace_of_selects (args := #[]) (mvT hZ (hw _ (List.mem_of_getElem? (i := 37) rfl)))) (mvT hZ (hw _ (List.mem_of_getElem? (i := 37) rfl))) (mvT hZ (hw _ (List.mem_of_getElem? (i := 36) rfl))) (by decide) (backOf (W := 0) (rm6_1 l Z a0 hw [] b7 w_d w_ASSIGNED w_SEQUENCE w_IDENTITY w_NATIVE w_NATIVE T8.heap n0 (Nat.le_trans (Nat.le_trans Z0 E7.1) Kc8.1) (own_stak1 (S_ASSIGNED.ext E7) Kc8 E_b7) (own_stak1 (S_SEQUENCE.ext E7) Kc8 E_b7) (own_stak1 (S_IDENTITY.ext E7) Kc8 E_b7) (own_stak1 (S_NATIVE.ext E7) Kc8 E_b7) ((F_nativeSequences_w_d.ext E7).keep Kc8 (ninS (Nat.ne_of_lt (Nat.lt_of_lt_of_le E_w_d.lt (Nat.le_of_eq g7.symm))) nin0)) Fk8 ((E_w_d.ext E7).keep Kc8) rfl (by decide)) hZ (hw _ (List.mem_of_getElem? (i := 38) rfl)) (hw _ (List.mem_of_getElem? (i := 16) rfl)) (by decide) (by decide)) q9a q9c (g := (mkF m 54 #[.val (.int p1), .val (.int p2), .val (.int p3), .val (.int p4), .val (.ref w_NATIVE), .val (.ref w_d), .val .null, .val (.ref b7), .unset, .unset] [(.ref w_d), (.ref b7)])) rfl (by rw [hml]; rfl) (Steps.refl _) (argsL := [(.ref w_d)]) (rest := []) (lenOf pd_0_4 rfl) rfl (by show 2 * 0 + _ ≤ _; exact Nat.le_of_eq rfl) (hb hby at_54) (fun _ _ => ⟨rfl, rfl, (by decide : 1 + 0 ≤ _), (by decide : 3 + 0 ≤ _)⟩)
  dsimp only [Pt.U, Pt.locs, Pt.cells, Pt.slots] at X9 l9 y9 z9 st9 hQ9
  subst l9 y9 z9
  obtain ⟨rfl, N9q, eq9⟩ := hQ9
  have N9 := Fr.app N8 N9q
  obtain ⟨T10, X10, e10, st10⟩ := getS2 X9 hx hZ hown (host := "") (Or.inl (hw _ (List.mem_of_getElem? (i := 41) rfl))) Via.refl eq9 (own_stak1 (S_NATIVE.ext E7) Kc8 E_b7) (g := (mkF m 61 #[.val (.int p1), .val (.int p2), .val (.int p3), .val (.int p4), .val (.ref w_NATIVE), .val (.ref w_d), .val .null, .val (.ref b7), .val (.ref w_SEQUENCE), .unset] [(.ref w_NATIVE)])) rfl (hb hby at_61)
  obtain ⟨cq11, kq11, q11a, q11b, q11c⟩ := isOf hZ e10 ((E_w_d.ext E7).keep Kc8)
  obtain ⟨_, _, ⟨T11, L11, k11, n11⟩, -, X11, ⟨Lc11, hQ11, l11, y11, z11⟩, st11⟩ := X10.virtualBack hx (y := (⟨"com/example/hydrate/hydrate/dialect/Dialect", "nativeSequences", "()Z"⟩ : MethodName)) (z := (⟨"com/example/hydrate/hydrate/dialect/Dialect", "nativeSequences", "()Z"⟩ : MethodName)) hown (mvT hZ (hw _ (List.mem_of_getElem? (i := 58) rfl))) (mvT hZ (hw _ (List.mem_of_getElem? (i := 50) rfl))) (notFace_of_selects (args := #[]) (mvT hZ (hw _ (List.mem_of_getElem? (i := 91) rfl)))) (mvT hZ (hw _ (List.mem_of_getElem? (i := 91) rfl))) (mvT hZ (hw _ (List.mem_of_getElem? (i := 51) rfl))) (by decide) (backOf (W := 0) (rm8_1 l Z a0 hw [] w_d T8.heap n0 (Nat.le_trans (Nat.le_trans Z0 E7.1) Kc8.1) ((F_nativeSequences_w_d.ext E7).keep Kc8 (ninS (Nat.ne_of_lt (Nat.lt_of_lt_of_le E_w_d.lt (Nat.le_of_eq g7.symm))) nin0))) hZ (hw _ (List.mem_of_getElem? (i := 53) rfl)) (hw _ (List.mem_of_getElem? (i := 12) rfl)) (by decide) (by decide)) q11a q11c (g := (mkF m 76 #[.val (.int p1), .val (.int p2), .val (.int p3), .val (.int p4), .val (.ref w_NATIVE), .val (.ref w_d), .val .null, .val (.ref b7), .val (.ref w_SEQUENCE), .unset] [(.ref w_d)])) rfl (by rw [hml]; rfl) (Steps.refl _) (argsL := []) (rest := []) (lenOf pd_0_6 rfl) rfl (by show 2 * 0 + _ ≤ _; exact Nat.le_of_eq rfl) (hb hby at_76) (fun _ _ => ⟨rfl, e10, (by decide : 1 + 0 ≤ _), (by decide : 3 + 0 ≤ _)⟩)
  dsimp only [Pt.U, Pt.locs, Pt.cells, Pt.slots] at X11 l11 y11 z11 st11 hQ11
  subst l11 y11 z11
  obtain ⟨rfl, N11q, eq11⟩ := hQ11
  have N11 := Fr.app N9 N11q
  obtain ⟨T12, X12, e12, st12⟩ := getS2 X11 hx hZ hown (host := "") (Or.inl (hw _ (List.mem_of_getElem? (i := 59) rfl))) Via.refl eq11 (own_stak1 (S_SEQUENCE.ext E7) Kc8 E_b7) (g := (mkF m 82 #[.val (.int p1), .val (.int p2), .val (.int p3), .val (.int p4), .val (.ref w_NATIVE), .val (.ref w_d), .val .null, .val (.ref b7), .val (.ref w_SEQUENCE), .unset] [])) rfl (hb hby at_82)
  obtain ⟨cq13, kq13, q13a, q13b, q13c⟩ := isOf hZ e12 (E_b7.keep Kc8)
  obtain ⟨_, _, ⟨T13, L13, k13, n13⟩, -, X13, ⟨Lc13, hQ13, l13, y13, z13⟩, st13⟩ := X12.virtualBack hx (y := (⟨"com/example/hydrate/hydrate/mapping/IdGenerator", "kind", "()Lcom/example/hydrate/hydrate/mapping/IdGenerator$Kind;"⟩ : MethodName)) (z := (⟨"com/example/hydrate/hydrate/mapping/IdGenerator", "kind", "()Lcom/example/hydrate/hydrate/mapping/IdGenerator$Kind;"⟩ : MethodName)) hown (mvT hZ (hw _ (List.mem_of_getElem? (i := 42) rfl))) (mvT hZ (hw _ (List.mem_of_getElem? (i := 43) rfl))) (notFace_of_selects (args := #[]) (mvT hZ (hw _ (List.mem_of_getElem? (i := 45) rfl)))) (mvT hZ (hw _ (List.mem_of_getElem? (i := 45) rfl))) (mvT hZ (hw _ (List.mem_of_getElem? (i := 44) rfl))) (by decide) (backOf (W := 0) (rm7 l Z a0 hw [] b7 w_NATIVE T8.heap n0 (Nat.le_trans (Nat.le_trans Z0 E7.1) Kc8.1) Fk8) hZ (hw _ (List.mem_of_getElem? (i := 46) rfl)) (hw _ (List.mem_of_getElem? (i := 16) rfl)) (by decide) (by decide)) q13a q13c (g := (mkF m 104 #[.val (.int p1), .val (.int p2), .val (.int p3), .val (.int p4), .val (.ref w_NATIVE), .val (.ref w_d), .val .null, .val (.ref b7), .val (.ref w_SEQUENCE), .val (.ref w_SEQUENCE)] [(.ref b7)])) rfl (by rw [hml]; rfl) (Steps.refl _) (argsL := []) (rest := []) (lenOf pd_0_5 rfl) rfl (by show 2 * 0 + _ ≤ _; exact Nat.le_of_eq rfl) (hb hby at_104) (fun _ _ => ⟨rfl, e12, (by decide : 1 + 0 ≤ _), (by decide : 3 + 0 ≤ _)⟩)
  dsimp only [Pt.U, Pt.locs, Pt.cells, Pt.slots] at X13 l13 y13 z13 st13 hQ13
  subst l13 y13 z13
  obtain ⟨rfl, N13q, eq13⟩ := hQ13
  have N13 := Fr.app N11 N13q
  obtain ⟨fs, hr, hrun, hended, hW, hsame⟩ := X13.leave (v := some (.int (1 : Int32))) (fun h => by rw [Bd.returns] at h; cases h)
  refine ⟨_, _, pre0 _ ?_, hrun, hended, _, _, rfl, ?_, ⟨_, rfl⟩, hW, hsame.mono (by decide) (by decide)⟩
  · show Steps p.tables e below (s₁.setTop (mkF m 0 #[.val (.int p1), .val (.int p2), .val (.int p3), .val (.int p4), .unset, .unset, .unset, .unset, .unset, .unset] [])) _
    refine XS.iloadN X0.here hx rfl (hb hby at_0) rfl ?_
    show Steps p.tables e below (s₁.setTop (mkF m 1 #[.val (.int p1), .val (.int p2), .val (.int p3), .val (.int p4), .unset, .unset, .unset, .unset, .unset, .unset] [(.int p1)])) _
    refine st5 _ ?_
    show Steps p.tables e below (T5.setTop (mkF m 4 #[.val (.int p1), .val (.int p2), .val (.int p3), .val (.int p4), .unset, .unset, .unset, .unset, .unset, .unset] [(.ref w_NATIVE)])) _
    refine XS.astore X5.here hx rfl (hb hby at_4) rfl rfl (l' := #[.val (.int p1), .val (.int p2), .val (.int p3), .val (.int p4), .val (.ref w_NATIVE), .unset, .unset, .unset, .unset, .unset]) rfl ?_
    show Steps p.tables e below (T5.setTop (mkF m 6 #[.val (.int p1), .val (.int p2), .val (.int p3), .val (.int p4), .val (.ref w_NATIVE), .unset, .unset, .unset, .unset, .unset] [])) _
    refine XS.iloadN X5.here hx rfl (hb hby at_6) rfl ?_
    show Steps p.tables e below (T5.setTop (mkF m 7 #[.val (.int p1), .val (.int p2), .val (.int p3), .val (.int p4), .val (.ref w_NATIVE), .unset, .unset, .unset, .unset, .unset] [(.int p2)])) _
    refine st6 _ ?_
    show Steps p.tables e below (T6.setTop (mkF m 10 #[.val (.int p1), .val (.int p2), .val (.int p3), .val (.int p4), .val (.ref w_NATIVE), .unset, .unset, .unset, .unset, .unset] [(.ref w_d)])) _
    refine XS.astore X6.here hx rfl (hb hby at_10) rfl rfl (l' := #[.val (.int p1), .val (.int p2), .val (.int p3), .val (.int p4), .val (.ref w_NATIVE), .val (.ref w_d), .unset, .unset, .unset, .unset]) rfl ?_
    show Steps p.tables e below (T6.setTop (mkF m 12 #[.val (.int p1), .val (.int p2), .val (.int p3), .val (.int p4), .val (.ref w_NATIVE), .val (.ref w_d), .unset, .unset, .unset, .unset] [])) _
    refine XS.iloadN X6.here hx rfl (hb hby at_12) rfl ?_
    show Steps p.tables e below (T6.setTop (mkF m 13 #[.val (.int p1), .val (.int p2), .val (.int p3), .val (.int p4), .val (.ref w_NATIVE), .val (.ref w_d), .unset, .unset, .unset, .unset] [(.int p4)])) _
    refine XS.bipush X6.here hx rfl (hb hby at_13) ?_
    show Steps p.tables e below (T6.setTop (mkF m 15 #[.val (.int p1), .val (.int p2), .val (.int p3), .val (.int p4), .val (.ref w_NATIVE), .val (.ref w_d), .unset, .unset, .unset, .unset] [(.int (8 : Int32)), (.int p4)])) _
    refine XS.iushr X6.here hx rfl (hb hby at_15) rfl ?_
    show Steps p.tables e below (T6.setTop (mkF m 16 #[.val (.int p1), .val (.int p2), .val (.int p3), .val (.int p4), .val (.ref w_NATIVE), .val (.ref w_d), .unset, .unset, .unset, .unset] [(.int ((p4.toUInt32 >>> ((8 : Int32) &&& 31).toUInt32).toInt32))])) _
    refine XS.iconst X6.here hx rfl (hb hby at_16) ?_
    show Steps p.tables e below (T6.setTop (mkF m 17 #[.val (.int p1), .val (.int p2), .val (.int p3), .val (.int p4), .val (.ref w_NATIVE), .val (.ref w_d), .unset, .unset, .unset, .unset] [(.int (1 : Int32)), (.int ((p4.toUInt32 >>> ((8 : Int32) &&& 31).toUInt32).toInt32))])) _
    refine XS.iand X6.here hx rfl (hb hby at_17) rfl ?_
    show Steps p.tables e below (T6.setTop (mkF m 18 #[.val (.int p1), .val (.int p2), .val (.int p3), .val (.int p4), .val (.ref w_NATIVE), .val (.ref w_d), .unset, .unset, .unset, .unset] [(.int (((p4.toUInt32 >>> ((8 : Int32) &&& 31).toUInt32).toInt32) &&& (1 : Int32)))])) _
    refine XS.ifYes X6.here hx rfl (pc0 := 18) (pc' := 33) rfl (hb hby at_18) rfl ((if0 _ _).trans (teq hc18).1) (by decide) (by decide) ?_
    show Steps p.tables e below (T6.setTop (mkF m 33 #[.val (.int p1), .val (.int p2), .val (.int p3), .val (.int p4), .val (.ref w_NATIVE), .val (.ref w_d), .unset, .unset, .unset, .unset] [])) _
    refine XS.aconstNull X6.here hx rfl (hb hby at_33) ?_
    show Steps p.tables e below (T6.setTop (mkF m 34 #[.val (.int p1), .val (.int p2), .val (.int p3), .val (.int p4), .val (.ref w_NATIVE), .val (.ref w_d), .unset, .unset, .unset, .unset] [.null])) _
    refine XS.astore X6.here hx rfl (hb hby at_34) rfl rfl (l' := #[.val (.int p1), .val (.int p2), .val (.int p3), .val (.int p4), .val (.ref w_NATIVE), .val (.ref w_d), .val .null, .unset, .unset, .unset]) rfl ?_
    show Steps p.tables e below (T6.setTop (mkF m 36 #[.val (.int p1), .val (.int p2), .val (.int p3), .val (.int p4), .val (.ref w_NATIVE), .val (.ref w_d), .val .null, .unset, .unset, .unset] [])) _
    refine st7 _ ?_
    show Steps p.tables e below (T7.setTop (mkF m 39 #[.val (.int p1), .val (.int p2), .val (.int p3), .val (.int p4), .val (.ref w_NATIVE), .val (.ref w_d), .val .null, .unset, .unset, .unset] [(.ref b7)])) _
    refine XS.dup X7.here hx rfl (hb hby at_39) rfl rfl ?_
    show Steps p.tables e below (T7.setTop (mkF m 40 #[.val (.int p1), .val (.int p2), .val (.int p3), .val (.int p4), .val (.ref w_NATIVE), .val (.ref w_d), .val .null, .unset, .unset, .unset] [(.ref b7), (.ref b7)])) _
    refine XS.aload X7.here hx rfl (hb hby at_40) rfl rfl ?_
    show Steps p.tables e below (T7.setTop (mkF m 42 #[.val (.int p1), .val (.int p2), .val (.int p3), .val (.int p4), .val (.ref w_NATIVE), .val (.ref w_d), .val .null, .unset, .unset, .unset] [(.ref w_NATIVE), (.ref b7), (.ref b7)])) _
    refine XS.aload X7.here hx rfl (hb hby at_42) rfl rfl ?_
    show Steps p.tables e below (T7.setTop (mkF m 44 #[.val (.int p1), .val (.int p2), .val (.int p3), .val (.int p4), .val (.ref w_NATIVE), .val (.ref w_d), .val .null, .unset, .unset, .unset] [.null, (.ref w_NATIVE), (.ref b7), (.ref b7)])) _
    refine XS.iloadN X7.here hx rfl (hb hby at_44) rfl ?_
    show Steps p.tables e below (T7.setTop (mkF m 45 #[.val (.int p1), .val (.int p2), .val (.int p3), .val (.int p4), .val (.ref w_NATIVE), .val (.ref w_d), .val .null, .unset, .unset, .unset] [(.int p3), .null, (.ref w_NATIVE), (.ref b7), (.ref b7)])) _
    refine st8.trans ?_
    show Steps p.tables e below (T8.setTop (mkF m 48 #[.val (.int p1), .val (.int p2), .val (.int p3), .val (.int p4), .val (.ref w_NATIVE), .val (.ref w_d), .val .null, .unset, .unset, .unset] [(.ref b7)])) _
    refine XS.astore X8.here hx rfl (hb hby at_48) rfl rfl (l' := #[.val (.int p1), .val (.int p2), .val (.int p3), .val (.int p4), .val (.ref w_NATIVE), .val (.ref w_d), .val .null, .val (.ref b7), .unset, .unset]) rfl ?_
    show Steps p.tables e below (T8.setTop (mkF m 50 #[.val (.int p1), .val (.int p2), .val (.int p3), .val (.int p4), .val (.ref w_NATIVE), .val (.ref w_d), .val .null, .val (.ref b7), .unset, .unset] [])) _
    refine XS.aload X8.here hx rfl (hb hby at_50) rfl rfl ?_
    show Steps p.tables e below (T8.setTop (mkF m 52 #[.val (.int p1), .val (.int p2), .val (.int p3), .val (.int p4), .val (.ref w_NATIVE), .val (.ref w_d), .val .null, .val (.ref b7), .unset, .unset] [(.ref b7)])) _
    refine XS.aload X8.here hx rfl (hb hby at_52) rfl rfl ?_
    show Steps p.tables e below (T8.setTop (mkF m 54 #[.val (.int p1), .val (.int p2), .val (.int p3), .val (.int p4), .val (.ref w_NATIVE), .val (.ref w_d), .val .null, .val (.ref b7), .unset, .unset] [(.ref w_d), (.ref b7)])) _
    refine st9.trans ?_
    show Steps p.tables e below (T9.setTop (mkF m 57 #[.val (.int p1), .val (.int p2), .val (.int p3), .val (.int p4), .val (.ref w_NATIVE), .val (.ref w_d), .val .null, .val (.ref b7), .unset, .unset] [(.ref w_SEQUENCE)])) _
    refine XS.astore X9.here hx rfl (hb hby at_57) rfl rfl (l' := #[.val (.int p1), .val (.int p2), .val (.int p3), .val (.int p4), .val (.ref w_NATIVE), .val (.ref w_d), .val .null, .val (.ref b7), .val (.ref w_SEQUENCE), .unset]) rfl ?_
    show Steps p.tables e below (T9.setTop (mkF m 59 #[.val (.int p1), .val (.int p2), .val (.int p3), .val (.int p4), .val (.ref w_NATIVE), .val (.ref w_d), .val .null, .val (.ref b7), .val (.ref w_SEQUENCE), .unset] [])) _
    refine XS.aload X9.here hx rfl (hb hby at_59) rfl rfl ?_
    show Steps p.tables e below (T9.setTop (mkF m 61 #[.val (.int p1), .val (.int p2), .val (.int p3), .val (.int p4), .val (.ref w_NATIVE), .val (.ref w_d), .val .null, .val (.ref b7), .val (.ref w_SEQUENCE), .unset] [(.ref w_NATIVE)])) _
    refine st10 _ ?_
    show Steps p.tables e below (T10.setTop (mkF m 64 #[.val (.int p1), .val (.int p2), .val (.int p3), .val (.int p4), .val (.ref w_NATIVE), .val (.ref w_d), .val .null, .val (.ref b7), .val (.ref w_SEQUENCE), .unset] [(.ref w_NATIVE), (.ref w_NATIVE)])) _
    refine Jvm.RoadKit.acmp (g := (mkF m 64 #[.val (.int p1), .val (.int p2), .val (.int p3), .val (.int p4), .val (.ref w_NATIVE), .val (.ref w_d), .val .null, .val (.ref b7), .val (.ref w_SEQUENCE), .unset] [(.ref w_NATIVE), (.ref w_NATIVE)])) X10 hx rfl rfl rfl (pc0 := 64) (pc' := 74) (same := true) rfl (hb hby at_64) rfl (decide_eq_true rfl) (by decide) (by decide) ?_
    show Steps p.tables e below (T10.setTop (mkF m 74 #[.val (.int p1), .val (.int p2), .val (.int p3), .val (.int p4), .val (.ref w_NATIVE), .val (.ref w_d), .val .null, .val (.ref b7), .val (.ref w_SEQUENCE), .unset] [])) _
    refine XS.aload X10.here hx rfl (hb hby at_74) rfl rfl ?_
    show Steps p.tables e below (T10.setTop (mkF m 76 #[.val (.int p1), .val (.int p2), .val (.int p3), .val (.int p4), .val (.ref w_NATIVE), .val (.ref w_d), .val .null, .val (.ref b7), .val (.ref w_SEQUENCE), .unset] [(.ref w_d)])) _
    refine st11.trans ?_
    show Steps p.tables e below (T11.setTop (mkF m 79 #[.val (.int p1), .val (.int p2), .val (.int p3), .val (.int p4), .val (.ref w_NATIVE), .val (.ref w_d), .val .null, .val (.ref b7), .val (.ref w_SEQUENCE), .unset] [(.int (1 : Int32))])) _
    refine XS.ifNo X11.here hx rfl (hb hby at_79) rfl ((if0 _ _).trans (feq hc79).1) ?_
    show Steps p.tables e below (T11.setTop (mkF m 82 #[.val (.int p1), .val (.int p2), .val (.int p3), .val (.int p4), .val (.ref w_NATIVE), .val (.ref w_d), .val .null, .val (.ref b7), .val (.ref w_SEQUENCE), .unset] [])) _
    refine st12 _ ?_
    show Steps p.tables e below (T12.setTop (mkF m 85 #[.val (.int p1), .val (.int p2), .val (.int p3), .val (.int p4), .val (.ref w_NATIVE), .val (.ref w_d), .val .null, .val (.ref b7), .val (.ref w_SEQUENCE), .unset] [(.ref w_SEQUENCE)])) _
    refine XS.astore X12.here hx rfl (hb hby at_85) rfl rfl (l' := #[.val (.int p1), .val (.int p2), .val (.int p3), .val (.int p4), .val (.ref w_NATIVE), .val (.ref w_d), .val .null, .val (.ref b7), .val (.ref w_SEQUENCE), .val (.ref w_SEQUENCE)]) rfl ?_
    show Steps p.tables e below (T12.setTop (mkF m 87 #[.val (.int p1), .val (.int p2), .val (.int p3), .val (.int p4), .val (.ref w_NATIVE), .val (.ref w_d), .val .null, .val (.ref b7), .val (.ref w_SEQUENCE), .val (.ref w_SEQUENCE)] [])) _
    refine XS.goto X12.here hx rfl (pc0 := 87) (pc' := 95) rfl (hb hby at_87) (by decide) (by decide) ?_
    show Steps p.tables e below (T12.setTop (mkF m 95 #[.val (.int p1), .val (.int p2), .val (.int p3), .val (.int p4), .val (.ref w_NATIVE), .val (.ref w_d), .val .null, .val (.ref b7), .val (.ref w_SEQUENCE), .val (.ref w_SEQUENCE)] [])) _
    refine XS.aload X12.here hx rfl (hb hby at_95) rfl rfl ?_
    show Steps p.tables e below (T12.setTop (mkF m 97 #[.val (.int p1), .val (.int p2), .val (.int p3), .val (.int p4), .val (.ref w_NATIVE), .val (.ref w_d), .val .null, .val (.ref b7), .val (.ref w_SEQUENCE), .val (.ref w_SEQUENCE)] [(.ref w_SEQUENCE)])) _
    refine XS.aload X12.here hx rfl (hb hby at_97) rfl rfl ?_
    show Steps p.tables e below (T12.setTop (mkF m 99 #[.val (.int p1), .val (.int p2), .val (.int p3), .val (.int p4), .val (.ref w_NATIVE), .val (.ref w_d), .val .null, .val (.ref b7), .val (.ref w_SEQUENCE), .val (.ref w_SEQUENCE)] [(.ref w_SEQUENCE), (.ref w_SEQUENCE)])) _
    refine Jvm.RoadKit.acmp (g := (mkF m 99 #[.val (.int p1), .val (.int p2), .val (.int p3), .val (.int p4), .val (.ref w_NATIVE), .val (.ref w_d), .val .null, .val (.ref b7), .val (.ref w_SEQUENCE), .val (.ref w_SEQUENCE)] [(.ref w_SEQUENCE), (.ref w_SEQUENCE)])) X12 hx rfl rfl rfl (pc0 := 99) (pc' := 102) (same := true) rfl (hb hby at_99) rfl (decide_eq_true rfl) (by decide) (by decide) ?_
    show Steps p.tables e below (T12.setTop (mkF m 102 #[.val (.int p1), .val (.int p2), .val (.int p3), .val (.int p4), .val (.ref w_NATIVE), .val (.ref w_d), .val .null, .val (.ref b7), .val (.ref w_SEQUENCE), .val (.ref w_SEQUENCE)] [])) _
    refine XS.aload X12.here hx rfl (hb hby at_102) rfl rfl ?_
    show Steps p.tables e below (T12.setTop (mkF m 104 #[.val (.int p1), .val (.int p2), .val (.int p3), .val (.int p4), .val (.ref w_NATIVE), .val (.ref w_d), .val .null, .val (.ref b7), .val (.ref w_SEQUENCE), .val (.ref w_SEQUENCE)] [(.ref b7)])) _
    refine st13.trans ?_
    show Steps p.tables e below (T13.setTop (mkF m 107 #[.val (.int p1), .val (.int p2), .val (.int p3), .val (.int p4), .val (.ref w_NATIVE), .val (.ref w_d), .val .null, .val (.ref b7), .val (.ref w_SEQUENCE), .val (.ref w_SEQUENCE)] [(.ref w_NATIVE)])) _
    refine XS.aload X13.here hx rfl (hb hby at_107) rfl rfl ?_
    show Steps p.tables e below (T13.setTop (mkF m 109 #[.val (.int p1), .val (.int p2), .val (.int p3), .val (.int p4), .val (.ref w_NATIVE), .val (.ref w_d), .val .null, .val (.ref b7), .val (.ref w_SEQUENCE), .val (.ref w_SEQUENCE)] [(.ref w_NATIVE), (.ref w_NATIVE)])) _
    refine Jvm.RoadKit.acmp (g := (mkF m 109 #[.val (.int p1), .val (.int p2), .val (.int p3), .val (.int p4), .val (.ref w_NATIVE), .val (.ref w_d), .val .null, .val (.ref b7), .val (.ref w_SEQUENCE), .val (.ref w_SEQUENCE)] [(.ref w_NATIVE), (.ref w_NATIVE)])) X13 hx rfl rfl rfl (pc0 := 109) (pc' := 112) (same := true) rfl (hb hby at_109) rfl (decide_eq_true rfl) (by decide) (by decide) ?_
    show Steps p.tables e below (T13.setTop (mkF m 112 #[.val (.int p1), .val (.int p2), .val (.int p3), .val (.int p4), .val (.ref w_NATIVE), .val (.ref w_d), .val .null, .val (.ref b7), .val (.ref w_SEQUENCE), .val (.ref w_SEQUENCE)] [])) _
    refine XS.iconst X13.here hx rfl (hb hby at_112) ?_
    show Steps p.tables e below (T13.setTop (mkF m 113 #[.val (.int p1), .val (.int p2), .val (.int p3), .val (.int p4), .val (.ref w_NATIVE), .val (.ref w_d), .val .null, .val (.ref b7), .val (.ref w_SEQUENCE), .val (.ref w_SEQUENCE)] [(.int (1 : Int32))])) _
    refine XS.goto X13.here hx rfl (pc0 := 113) (pc' := 117) rfl (hb hby at_113) (by decide) (by decide) ?_
    show Steps p.tables e below (T13.setTop (mkF m 117 #[.val (.int p1), .val (.int p2), .val (.int p3), .val (.int p4), .val (.ref w_NATIVE), .val (.ref w_d), .val .null, .val (.ref b7), .val (.ref w_SEQUENCE), .val (.ref w_SEQUENCE)] [(.int (1 : Int32))])) _
    exact retN X13 hx (t := .boolean) Bd.returns (by simp) (hb hby at_117) hr
  · show QL (some (.int (1 : Int32))) n0 _ T13.heap _
    rw [eq13]
    exact ⟨rfl, N13⟩

set_option maxRecDepth 65536 in
set_option maxHeartbeats 40000000 in
theorem rm0_t2 (l : Launch) (Z : State) (a0 : Array Value) (hw : ∀ d ∈ tables_1, d.before a0 Z = true) (ws : List Jvm.Cond) (p1 : Int32) (p2 : Int32) (p3 : Int32) (p4 : Int32) (w_ASSIGNED : Addr) (w_SEQUENCE : Addr) (w_IDENTITY : Addr) (w_NATIVE : Addr) (w_H2 : Addr) (w_POSTGRESQL : Addr) (w_MARIADB : Addr) (w_d : Addr) (w_COMPACT_STRINGS : Int32) (h0 : Heap) (n0 : Nat) (Z0 : n0 ≤ h0.size) (S_ASSIGNED : Sta Z h0 "com/example/hydrate/hydrate/mapping/IdGenerator$Kind" "ASSIGNED" "Lcom/example/hydrate/hydrate/mapping/IdGenerator$Kind;" (.ref w_ASSIGNED)) (S_SEQUENCE : Sta Z h0 "com/example/hydrate/hydrate/mapping/IdGenerator$Kind" "SEQUENCE" "Lcom/example/hydrate/hydrate/mapping/IdGenerator$Kind;" (.ref w_SEQUENCE)) (S_IDENTITY : Sta Z h0 "com/example/hydrate/hydrate/mapping/IdGenerator$Kind" "IDENTITY" "Lcom/example/hydrate/hydrate/mapping/IdGenerator$Kind;" (.ref w_IDENTITY)) (S_NATIVE : Sta Z h0 "com/example/hydrate/hydrate/mapping/IdGenerator$Kind" "NATIVE" "Lcom/example/hydrate/hydrate/mapping/IdGenerator$Kind;" (.ref w_NATIVE)) (S_H2 : Sta Z h0 "com/example/hydrate/hydrate/dialect/Dialect" "H2" "Lcom/example/hydrate/hydrate/dialect/Dialect;" (.ref w_H2)) (S_POSTGRESQL : Sta Z h0 "com/example/hydrate/hydrate/dialect/Dialect" "POSTGRESQL" "Lcom/example/hydrate/hydrate/dialect/Dialect;" (.ref w_POSTGRESQL)) (S_MARIADB : Sta Z h0 "com/example/hydrate/hydrate/dialect/Dialect" "MARIADB" "Lcom/example/hydrate/hydrate/dialect/Dialect;" (.ref w_MARIADB)) (E_w_d : Exa Z h0 w_d "com/example/hydrate/hydrate/dialect/Dialect$2") (hk : Kd (p1 &&& (3 : Int32)) w_NATIVE w_ASSIGNED w_SEQUENCE w_IDENTITY w_NATIVE) (hd : Dl (HMod.hMod (p2 &&& (2147483647 : Int32)) (3 : Int32)) w_d w_H2 w_POSTGRESQL w_MARIADB) (hcs : ¬ (w_COMPACT_STRINGS = (0 : Int32))) (S_COMPACT_STRINGS : Sta Z h0 "java/lang/String" "COMPACT_STRINGS" "Z" (.int w_COMPACT_STRINGS)) (F_nativeSequences_w_d : Fld Z h0 w_d "com/example/hydrate/hydrate/dialect/Dialect" "nativeSequences" "Z" (.int (1 : Int32))) (hc18 : (((p4.toUInt32 >>> ((8 : Int32) &&& 31).toUInt32).toInt32) &&& (1 : Int32)) = (0 : Int32)) (hc79 : ¬ ((1 : Int32) = (0 : Int32))) :
    MetFree l x (head1 (Jvm.Cond.code x code maxLocals ret :: ws) room_1) (fun a U => a = #[(.int p1), (.int p2), (.int p3), (.int p4)] ∧ Z.Warmed39 U.vm ∧ U.heap = h0) (fun _ _ _ _ _ => True) (fun _ U o U' => ∃ v L, o = .returned v ∧ QL (some (.int (1 : Int32))) n0 v U'.heap L ∧ FrameEnd U o U' L room_1.cells room_1.slots) := by
  refine MetFree.of_bodySF (plainFor_of_name pn_0) hisR ?_
  intro p e s m args below meth c s₁ Bd hml0 hP hK
  obtain ⟨rfl, hZ, hh⟩ := hP
  have hx := Bd.exec
  have hby := Bd.bytes
  have hml : c.maxLocals = 10 := hml0
  have hown : s.vm.findClass "com/example/hydrate/hydrate/mapping/IdGeneratorOnPinLaw" = some m.cls := findClass_of_methodNamed Bd.named
  have hnm := (name_of_methodNamed Bd.named Bd.method).1
  have X0 : Stand p l e room_1 s m #[(.int p1), (.int p2), (.int p3), (.int p4)] below meth c s₁ [] 0 0 := Stand.of_body Bd
  have e0 : s₁.heap = h0 := by rw [← hh, Bd.state]; rfl
  have N0 := Fr.nil n0
  have pre0 : ∀ t, Steps p.tables e below (s₁.setTop (mkF m 0 #[.val (.int p1), .val (.int p2), .val (.int p3), .val (.int p4), .unset, .unset, .unset, .unset, .unset, .unset] [])) t → Steps p.tables e below (s₁.setTop (entryFrame m #[(.int p1), (.int p2), (.int p3), (.int p4)] maxLocals)) t := fun t k => castTop (ef_0 m p1 p2 p3 p4) k
  obtain ⟨_, _, ⟨T5, L5, k5, n5⟩, -, X5, ⟨Lc5, hQ5, l5, y5, z5⟩, st5⟩ := Jvm.LawKit.callS X0 hx (y := (⟨"com/example/hydrate/hydrate/mapping/IdGeneratorOnPinLaw", "kindOf", "(I)Lcom/example/hydrate/hydrate/mapping/IdGenerator$Kind;"⟩ : MethodName)) hown (mvT hZ (hw _ (List.mem_of_getElem? (i := 0) rfl))) (mvT hZ (hw _ (List.mem_of_getElem? (i := 1) rfl))) (mvT hZ (hw _ (List.mem_of_getElem? (i := 2) rfl))) (mvT hZ (hw _ (List.mem_of_getElem? (i := 3) rfl))) (by decide) (backOf (W := 0) (rm1 l Z a0 hw [] p1 w_ASSIGNED w_SEQUENCE w_IDENTITY w_NATIVE w_NATIVE h0 n0 Z0 S_ASSIGNED S_SEQUENCE S_IDENTITY S_NATIVE hk) hZ (hw _ (List.mem_of_getElem? (i := 3) rfl)) (hw _ (List.mem_of_getElem? (i := 2) rfl)) (by decide) (by decide)) (g := (mkF m 1 #[.val (.int p1), .val (.int p2), .val (.int p3), .val (.int p4), .unset, .unset, .unset, .unset, .unset, .unset] [(.int p1)])) rfl (by rw [hml]; rfl) (argsL := [(.int p1)]) (rest := []) (lenOf pd_0_0 rfl) rfl (by show 2 * 0 + _ ≤ _; exact Nat.le_of_eq rfl) (hb hby at_1) (fun _ _ => ⟨rfl, e0, (by decide : 0 + 0 ≤ _), (by decide : 0 + 0 ≤ _)⟩)
  dsimp only [Pt.U, Pt.locs, Pt.cells, Pt.slots] at X5 l5 y5 z5 st5 hQ5
  subst l5 y5 z5
  obtain ⟨rfl, N5q, eq5⟩ := hQ5
  have N5 := Fr.app N0 N5q
  obtain ⟨_, _, ⟨T6, L6, k6, n6⟩, -, X6, ⟨Lc6, hQ6, l6, y6, z6⟩, st6⟩ := Jvm.LawKit.callS X5 hx (y := (⟨"com/example/hydrate/hydrate/mapping/IdGeneratorOnPinLaw", "dialectOf", "(I)Lcom/example/hydrate/hydrate/dialect/Dialect;"⟩ : MethodName)) hown (mvT hZ (hw _ (List.mem_of_getElem? (i := 7) rfl))) (mvT hZ (hw _ (List.mem_of_getElem? (i := 8) rfl))) (mvT hZ (hw _ (List.mem_of_getElem? (i := 2) rfl))) (mvT hZ (hw _ (List.mem_of_getElem? (i := 9) rfl))) (by decide) (backOf (W := 0) (rm2 l Z a0 hw [] p2 w_H2 w_POSTGRESQL w_MARIADB w_d h0 n0 Z0 S_H2 S_POSTGRESQL S_MARIADB hd) hZ (hw _ (List.mem_of_getElem? (i := 9) rfl)) (hw _ (List.mem_of_getElem? (i := 2) rfl)) (by decide) (by decide)) (g := (mkF m 7 #[.val (.int p1), .val (.int p2), .val (.int p3), .val (.int p4), .val (.ref w_NATIVE), .unset, .unset, .unset, .unset, .unset] [(.int p2)])) rfl (by rw [hml]; rfl) (argsL := [(.int p2)]) (rest := []) (lenOf pd_0_1 rfl) rfl (by show 2 * 0 + _ ≤ _; exact Nat.le_of_eq rfl) (hb hby at_7) (fun _ _ => ⟨rfl, eq5, (by decide : 0 + 0 ≤ _), (by decide : 0 + 0 ≤ _)⟩)
  dsimp only [Pt.U, Pt.locs, Pt.cells, Pt.slots] at X6 l6 y6 z6 st6 hQ6
  subst l6 y6 z6
  obtain ⟨rfl, N6q, eq6⟩ := hQ6
  have N6 := Fr.app N5 N6q
  obtain ⟨T7, h7, X7, e7, E7, A7, D7, -, st7⟩ := newO X6 hx hZ hown (hw _ (List.mem_of_getElem? (i := 14) rfl)) (hw _ (List.mem_of_getElem? (i := 15) rfl)) (hw _ (List.mem_of_getElem? (i := 16) rfl)) eq6 (g := (mkF m 36 #[.val (.int p1), .val (.int p2), .val (.int p3), .val (.int p4), .val (.ref w_NATIVE), .val (.ref w_d), .val .null, .unset, .unset, .unset] [])) rfl (hb hby at_36) (by decide) (by decide)
  obtain ⟨b7, g7⟩ : ∃ z, z = h0.size := ⟨_, rfl⟩      -- the fresh object's address
  rw [← g7] at A7 D7 st7      -- A7 : Exa Z h7 b7 "com/example/hydrate/hydrate/mapping/IdGenerator"; E7 : Ext h0 h7 (carries every older fact: .ext E7)
  have F_kind_b7 : Fld Z h7 b7 "com/example/hydrate/hydrate/mapping/IdGenerator" "kind" "Lcom/example/hydrate/hydrate/mapping/IdGenerator$Kind;" .null := D7 (Or.inr (hw _ (List.mem_of_getElem? (i := 29) rfl))) (ty := (.object "com/example/hydrate/hydrate/mapping/IdGenerator$Kind")) (by decide)
  have F_sequence_b7 : Fld Z h7 b7 "com/example/hydrate/hydrate/mapping/IdGenerator" "sequence" "Ljava/lang/String;" .null := D7 (Or.inr (hw _ (List.mem_of_getElem? (i := 31) rfl))) (ty := (.object "java/lang/String")) (by decide)
  have F_increment_b7 : Fld Z h7 b7 "com/example/hydrate/hydrate/mapping/IdGenerator" "increment" "I" (.int (0 : Int32)) := D7 (Or.inr (hw _ (List.mem_of_getElem? (i := 33) rfl))) (ty := .int) (by decide)
  have E_b7 := A7
  have g_b7 : n0 ≤ b7 := Nat.le_trans Z0 (Nat.le_of_eq g7.symm)
  have sz_b7 : h0.size ≤ b7 := (Nat.le_trans (Keep.refl h0 []).1 (Nat.le_of_eq g7.symm))
  have K7 : Keep h0 h7 [] := (Keep.refl h0 []).ext E7
  obtain ⟨_, _, ⟨T8, L8, k8, n8⟩, -, X8, ⟨Lc8, hQ8, l8, y8, z8⟩, st8⟩ := X7.specialBack hx (y := (⟨"com/example/hydrate/hydrate/mapping/IdGenerator", "<init>", "(Lcom/example/hydrate/hydrate/mapping/IdGenerator$Kind;Ljava/lang/String;I)V"⟩ : MethodName)) rfl hown (mvT hZ (hw _ (List.mem_of_getElem? (i := 17) rfl))) (mvT hZ (hw _ (List.mem_of_getElem? (i := 18) rfl))) (mvT hZ (hw _ (List.mem_of_getElem? (i := 19) rfl))) (by decide) (backOf (W := 1) (rm3n l Z a0 hw [] b7 w_NATIVE p3 .null .null ((.int (0 : Int32))) h7 n0 (Nat.le_trans Z0 E7.1) E_b7 F_kind_b7 g_b7 F_sequence_b7 F_increment_b7) hZ (hw _ (List.mem_of_getElem? (i := 19) rfl)) (hw _ (List.mem_of_getElem? (i := 16) rfl)) (by decide) (by decide)) (g := (mkF m 45 #[.val (.int p1), .val (.int p2), .val (.int p3), .val (.int p4), .val (.ref w_NATIVE), .val (.ref w_d), .val .null, .unset, .unset, .unset] [(.int p3), .null, (.ref w_NATIVE), (.ref b7), (.ref b7)])) rfl (by rw [hml]; rfl) (Steps.refl _) (a := b7) (argsL := [(.ref w_NATIVE), .null, (.int p3)]) (rest := [(.ref b7)]) (lenOf pd_0_2 rfl) rfl (by show 2 * 0 + _ ≤ _; exact Nat.le_of_eq rfl) (hb hby at_45) (fun _ _ => ⟨rfl, e7, (by decide : 1 + 0 ≤ _), (by decide : 3 + 0 ≤ _)⟩)
  dsimp only [Pt.U, Pt.locs, Pt.cells, Pt.slots] at X8 l8 y8 z8 st8 hQ8
  subst l8 y8 z8
  obtain ⟨rfl, N8q, Kc8, Ex8, Fk8, Fs8, Fi8⟩ := hQ8
  have N8 := Fr.app N6 N8q
  have K8 : Keep h0 T8.heap [] := K7.trans Kc8 (allS (Or.inr sz_b7) (all0))
  obtain ⟨cq9, kq9, q9a, q9b, q9c⟩ := isOf hZ rfl (E_b7.keep Kc8)
  obtain ⟨_, _, ⟨T9, L9, k9, n9⟩, -, X9, ⟨Lc9, hQ9, l9, y9, z9⟩, st9⟩ := X8.virtualBack hx (y := (⟨"com/example/hydrate/hydrate/mapping/IdGenerator", "on", "(Lcom/example/hydrate/hydrate/dialect/Dialect;)Lcom/example/hydrate/hydrate/mapping/IdGenerator$Kind;"⟩ : MethodName)) (z := (⟨"com/example/hydrate/hydrate/mapping/IdGenerator", "on", "(Lcom/example/hydrate/hydrate/dialect/Dialect;)Lcom/example/hydrate/hydrate/mapping/IdGenerator$Kind;"⟩ : MethodName)) hown (mvT hZ (hw _ (List.mem_of_getElem? (i := 34) rfl))) (mvT hZ (hw _ (List.mem_of_getElem? (i := 35) rfl))) (notFace_of_selects (args := #[]) (mvT hZ (hw _ (List.mem_of_getElem? (i := 37) rfl)))) (mvT hZ (hw _ (List.mem_of_getElem? (i := 37) rfl))) (mvT hZ (hw _ (List.mem_of_getElem? (i := 36) rfl))) (by decide) (backOf (W := 0) (rm6_2 l Z a0 hw [] b7 w_d w_ASSIGNED w_SEQUENCE w_IDENTITY w_NATIVE w_NATIVE T8.heap n0 (Nat.le_trans (Nat.le_trans Z0 E7.1) Kc8.1) (own_stak1 (S_ASSIGNED.ext E7) Kc8 E_b7) (own_stak1 (S_SEQUENCE.ext E7) Kc8 E_b7) (own_stak1 (S_IDENTITY.ext E7) Kc8 E_b7) (own_stak1 (S_NATIVE.ext E7) Kc8 E_b7) ((F_nativeSequences_w_d.ext E7).keep Kc8 (ninS (Nat.ne_of_lt (Nat.lt_of_lt_of_le E_w_d.lt (Nat.le_of_eq g7.symm))) nin0)) Fk8 ((E_w_d.ext E7).keep Kc8) rfl (by decide)) hZ (hw _ (List.mem_of_getElem? (i := 38) rfl)) (hw _ (List.mem_of_getElem? (i := 16) rfl)) (by decide) (by decide)) q9a q9c (g := (mkF m 54 #[.val (.int p1), .val (.int p2), .val (.int p3), .val (.int p4), .val (.ref w_NATIVE), .val (.ref w_d), .val .null, .val (.ref b7), .unset, .unset] [(.ref w_d), (.ref b7)])) rfl (by rw [hml]; rfl) (Steps.refl _) (argsL := [(.ref w_d)]) (rest := []) (lenOf pd_0_4 rfl) rfl (by show 2 * 0 + _ ≤ _; exact Nat.le_of_eq rfl) (hb hby at_54) (fun _ _ => ⟨rfl, rfl, (by decide : 1 + 0 ≤ _), (by decide : 3 + 0 ≤ _)⟩)
  dsimp only [Pt.U, Pt.locs, Pt.cells, Pt.slots] at X9 l9 y9 z9 st9 hQ9
  subst l9 y9 z9
  obtain ⟨rfl, N9q, eq9⟩ := hQ9
  have N9 := Fr.app N8 N9q
  obtain ⟨T10, X10, e10, st10⟩ := getS2 X9 hx hZ hown (host := "") (Or.inl (hw _ (List.mem_of_getElem? (i := 41) rfl))) Via.refl eq9 (own_stak1 (S_NATIVE.ext E7) Kc8 E_b7) (g := (mkF m 61 #[.val (.int p1), .val (.int p2), .val (.int p3), .val (.int p4), .val (.ref w_NATIVE), .val (.ref w_d), .val .null, .val (.ref b7), .val (.ref w_SEQUENCE), .unset] [(.ref w_NATIVE)])) rfl (hb hby at_61)
  obtain ⟨cq11, kq11, q11a, q11b, q11c⟩ := isOf hZ e10 ((E_w_d.ext E7).keep Kc8)
  obtain ⟨_, _, ⟨T11, L11, k11, n11⟩, -, X11, ⟨Lc11, hQ11, l11, y11, z11⟩, st11⟩ := X10.virtualBack hx (y := (⟨"com/example/hydrate/hydrate/dialect/Dialect", "nativeSequences", "()Z"⟩ : MethodName)) (z := (⟨"com/example/hydrate/hydrate/dialect/Dialect", "nativeSequences", "()Z"⟩ : MethodName)) hown (mvT hZ (hw _ (List.mem_of_getElem? (i := 58) rfl))) (mvT hZ (hw _ (List.mem_of_getElem? (i := 50) rfl))) (notFace_of_selects (args := #[]) (mvT hZ (hw _ (List.mem_of_getElem? (i := 52) rfl)))) (mvT hZ (hw _ (List.mem_of_getElem? (i := 52) rfl))) (mvT hZ (hw _ (List.mem_of_getElem? (i := 51) rfl))) (by decide) (backOf (W := 0) (rm8_1 l Z a0 hw [] w_d T8.heap n0 (Nat.le_trans (Nat.le_trans Z0 E7.1) Kc8.1) ((F_nativeSequences_w_d.ext E7).keep Kc8 (ninS (Nat.ne_of_lt (Nat.lt_of_lt_of_le E_w_d.lt (Nat.le_of_eq g7.symm))) nin0))) hZ (hw _ (List.mem_of_getElem? (i := 53) rfl)) (hw _ (List.mem_of_getElem? (i := 12) rfl)) (by decide) (by decide)) q11a q11c (g := (mkF m 76 #[.val (.int p1), .val (.int p2), .val (.int p3), .val (.int p4), .val (.ref w_NATIVE), .val (.ref w_d), .val .null, .val (.ref b7), .val (.ref w_SEQUENCE), .unset] [(.ref w_d)])) rfl (by rw [hml]; rfl) (Steps.refl _) (argsL := []) (rest := []) (lenOf pd_0_6 rfl) rfl (by show 2 * 0 + _ ≤ _; exact Nat.le_of_eq rfl) (hb hby at_76) (fun _ _ => ⟨rfl, e10, (by decide : 1 + 0 ≤ _), (by decide : 3 + 0 ≤ _)⟩)
  dsimp only [Pt.U, Pt.locs, Pt.cells, Pt.slots] at X11 l11 y11 z11 st11 hQ11
  subst l11 y11 z11
  obtain ⟨rfl, N11q, eq11⟩ := hQ11
  have N11 := Fr.app N9 N11q
  obtain ⟨T12, X12, e12, st12⟩ := getS2 X11 hx hZ hown (host := "") (Or.inl (hw _ (List.mem_of_getElem? (i := 59) rfl))) Via.refl eq11 (own_stak1 (S_SEQUENCE.ext E7) Kc8 E_b7) (g := (mkF m 82 #[.val (.int p1), .val (.int p2), .val (.int p3), .val (.int p4), .val (.ref w_NATIVE), .val (.ref w_d), .val .null, .val (.ref b7), .val (.ref w_SEQUENCE), .unset] [])) rfl (hb hby at_82)
  obtain ⟨cq13, kq13, q13a, q13b, q13c⟩ := isOf hZ e12 (E_b7.keep Kc8)
  obtain ⟨_, _, ⟨T13, L13, k13, n13⟩, -, X13, ⟨Lc13, hQ13, l13, y13, z13⟩, st13⟩ := X12.virtualBack hx (y := (⟨"com/example/hydrate/hydrate/mapping/IdGenerator", "kind", "()Lcom/example/hydrate/hydrate/mapping/IdGenerator$Kind;"⟩ : MethodName)) (z := (⟨"com/example/hydrate/hydrate/mapping/IdGenerator", "kind", "()Lcom/example/hydrate/hydrate/mapping/IdGenerator$Kind;"⟩ : MethodName)) hown (mvT hZ (hw _ (List.mem_of_getElem? (i := 42) rfl))) (mvT hZ (hw _ (List.mem_of_getElem? (i := 43) rfl))) (notFace_of_selects (args := #[]) (mvT hZ (hw _ (List.mem_of_getElem? (i := 45) rfl)))) (mvT hZ (hw _ (List.mem_of_getElem? (i := 45) rfl))) (mvT hZ (hw _ (List.mem_of_getElem? (i := 44) rfl))) (by decide) (backOf (W := 0) (rm7 l Z a0 hw [] b7 w_NATIVE T8.heap n0 (Nat.le_trans (Nat.le_trans Z0 E7.1) Kc8.1) Fk8) hZ (hw _ (List.mem_of_getElem? (i := 46) rfl)) (hw _ (List.mem_of_getElem? (i := 16) rfl)) (by decide) (by decide)) q13a q13c (g := (mkF m 104 #[.val (.int p1), .val (.int p2), .val (.int p3), .val (.int p4), .val (.ref w_NATIVE), .val (.ref w_d), .val .null, .val (.ref b7), .val (.ref w_SEQUENCE), .val (.ref w_SEQUENCE)] [(.ref b7)])) rfl (by rw [hml]; rfl) (Steps.refl _) (argsL := []) (rest := []) (lenOf pd_0_5 rfl) rfl (by show 2 * 0 + _ ≤ _; exact Nat.le_of_eq rfl) (hb hby at_104) (fun _ _ => ⟨rfl, e12, (by decide : 1 + 0 ≤ _), (by decide : 3 + 0 ≤ _)⟩)
  dsimp only [Pt.U, Pt.locs, Pt.cells, Pt.slots] at X13 l13 y13 z13 st13 hQ13
  subst l13 y13 z13
  obtain ⟨rfl, N13q, eq13⟩ := hQ13
  have N13 := Fr.app N11 N13q
  obtain ⟨fs, hr, hrun, hended, hW, hsame⟩ := X13.leave (v := some (.int (1 : Int32))) (fun h => by rw [Bd.returns] at h; cases h)
  refine ⟨_, _, pre0 _ ?_, hrun, hended, _, _, rfl, ?_, ⟨_, rfl⟩, hW, hsame.mono (by decide) (by decide)⟩
  · show Steps p.tables e below (s₁.setTop (mkF m 0 #[.val (.int p1), .val (.int p2), .val (.int p3), .val (.int p4), .unset, .unset, .unset, .unset, .unset, .unset] [])) _
    refine XS.iloadN X0.here hx rfl (hb hby at_0) rfl ?_
    show Steps p.tables e below (s₁.setTop (mkF m 1 #[.val (.int p1), .val (.int p2), .val (.int p3), .val (.int p4), .unset, .unset, .unset, .unset, .unset, .unset] [(.int p1)])) _
    refine st5 _ ?_
    show Steps p.tables e below (T5.setTop (mkF m 4 #[.val (.int p1), .val (.int p2), .val (.int p3), .val (.int p4), .unset, .unset, .unset, .unset, .unset, .unset] [(.ref w_NATIVE)])) _
    refine XS.astore X5.here hx rfl (hb hby at_4) rfl rfl (l' := #[.val (.int p1), .val (.int p2), .val (.int p3), .val (.int p4), .val (.ref w_NATIVE), .unset, .unset, .unset, .unset, .unset]) rfl ?_
    show Steps p.tables e below (T5.setTop (mkF m 6 #[.val (.int p1), .val (.int p2), .val (.int p3), .val (.int p4), .val (.ref w_NATIVE), .unset, .unset, .unset, .unset, .unset] [])) _
    refine XS.iloadN X5.here hx rfl (hb hby at_6) rfl ?_
    show Steps p.tables e below (T5.setTop (mkF m 7 #[.val (.int p1), .val (.int p2), .val (.int p3), .val (.int p4), .val (.ref w_NATIVE), .unset, .unset, .unset, .unset, .unset] [(.int p2)])) _
    refine st6 _ ?_
    show Steps p.tables e below (T6.setTop (mkF m 10 #[.val (.int p1), .val (.int p2), .val (.int p3), .val (.int p4), .val (.ref w_NATIVE), .unset, .unset, .unset, .unset, .unset] [(.ref w_d)])) _
    refine XS.astore X6.here hx rfl (hb hby at_10) rfl rfl (l' := #[.val (.int p1), .val (.int p2), .val (.int p3), .val (.int p4), .val (.ref w_NATIVE), .val (.ref w_d), .unset, .unset, .unset, .unset]) rfl ?_
    show Steps p.tables e below (T6.setTop (mkF m 12 #[.val (.int p1), .val (.int p2), .val (.int p3), .val (.int p4), .val (.ref w_NATIVE), .val (.ref w_d), .unset, .unset, .unset, .unset] [])) _
    refine XS.iloadN X6.here hx rfl (hb hby at_12) rfl ?_
    show Steps p.tables e below (T6.setTop (mkF m 13 #[.val (.int p1), .val (.int p2), .val (.int p3), .val (.int p4), .val (.ref w_NATIVE), .val (.ref w_d), .unset, .unset, .unset, .unset] [(.int p4)])) _
    refine XS.bipush X6.here hx rfl (hb hby at_13) ?_
    show Steps p.tables e below (T6.setTop (mkF m 15 #[.val (.int p1), .val (.int p2), .val (.int p3), .val (.int p4), .val (.ref w_NATIVE), .val (.ref w_d), .unset, .unset, .unset, .unset] [(.int (8 : Int32)), (.int p4)])) _
    refine XS.iushr X6.here hx rfl (hb hby at_15) rfl ?_
    show Steps p.tables e below (T6.setTop (mkF m 16 #[.val (.int p1), .val (.int p2), .val (.int p3), .val (.int p4), .val (.ref w_NATIVE), .val (.ref w_d), .unset, .unset, .unset, .unset] [(.int ((p4.toUInt32 >>> ((8 : Int32) &&& 31).toUInt32).toInt32))])) _
    refine XS.iconst X6.here hx rfl (hb hby at_16) ?_
    show Steps p.tables e below (T6.setTop (mkF m 17 #[.val (.int p1), .val (.int p2), .val (.int p3), .val (.int p4), .val (.ref w_NATIVE), .val (.ref w_d), .unset, .unset, .unset, .unset] [(.int (1 : Int32)), (.int ((p4.toUInt32 >>> ((8 : Int32) &&& 31).toUInt32).toInt32))])) _
    refine XS.iand X6.here hx rfl (hb hby at_17) rfl ?_
    show Steps p.tables e below (T6.setTop (mkF m 18 #[.val (.int p1), .val (.int p2), .val (.int p3), .val (.int p4), .val (.ref w_NATIVE), .val (.ref w_d), .unset, .unset, .unset, .unset] [(.int (((p4.toUInt32 >>> ((8 : Int32) &&& 31).toUInt32).toInt32) &&& (1 : Int32)))])) _
    refine XS.ifYes X6.here hx rfl (pc0 := 18) (pc' := 33) rfl (hb hby at_18) rfl ((if0 _ _).trans (teq hc18).1) (by decide) (by decide) ?_
    show Steps p.tables e below (T6.setTop (mkF m 33 #[.val (.int p1), .val (.int p2), .val (.int p3), .val (.int p4), .val (.ref w_NATIVE), .val (.ref w_d), .unset, .unset, .unset, .unset] [])) _
    refine XS.aconstNull X6.here hx rfl (hb hby at_33) ?_
    show Steps p.tables e below (T6.setTop (mkF m 34 #[.val (.int p1), .val (.int p2), .val (.int p3), .val (.int p4), .val (.ref w_NATIVE), .val (.ref w_d), .unset, .unset, .unset, .unset] [.null])) _
    refine XS.astore X6.here hx rfl (hb hby at_34) rfl rfl (l' := #[.val (.int p1), .val (.int p2), .val (.int p3), .val (.int p4), .val (.ref w_NATIVE), .val (.ref w_d), .val .null, .unset, .unset, .unset]) rfl ?_
    show Steps p.tables e below (T6.setTop (mkF m 36 #[.val (.int p1), .val (.int p2), .val (.int p3), .val (.int p4), .val (.ref w_NATIVE), .val (.ref w_d), .val .null, .unset, .unset, .unset] [])) _
    refine st7 _ ?_
    show Steps p.tables e below (T7.setTop (mkF m 39 #[.val (.int p1), .val (.int p2), .val (.int p3), .val (.int p4), .val (.ref w_NATIVE), .val (.ref w_d), .val .null, .unset, .unset, .unset] [(.ref b7)])) _
    refine XS.dup X7.here hx rfl (hb hby at_39) rfl rfl ?_
    show Steps p.tables e below (T7.setTop (mkF m 40 #[.val (.int p1), .val (.int p2), .val (.int p3), .val (.int p4), .val (.ref w_NATIVE), .val (.ref w_d), .val .null, .unset, .unset, .unset] [(.ref b7), (.ref b7)])) _
    refine XS.aload X7.here hx rfl (hb hby at_40) rfl rfl ?_
    show Steps p.tables e below (T7.setTop (mkF m 42 #[.val (.int p1), .val (.int p2), .val (.int p3), .val (.int p4), .val (.ref w_NATIVE), .val (.ref w_d), .val .null, .unset, .unset, .unset] [(.ref w_NATIVE), (.ref b7), (.ref b7)])) _
    refine XS.aload X7.here hx rfl (hb hby at_42) rfl rfl ?_
    show Steps p.tables e below (T7.setTop (mkF m 44 #[.val (.int p1), .val (.int p2), .val (.int p3), .val (.int p4), .val (.ref w_NATIVE), .val (.ref w_d), .val .null, .unset, .unset, .unset] [.null, (.ref w_NATIVE), (.ref b7), (.ref b7)])) _
    refine XS.iloadN X7.here hx rfl (hb hby at_44) rfl ?_
    show Steps p.tables e below (T7.setTop (mkF m 45 #[.val (.int p1), .val (.int p2), .val (.int p3), .val (.int p4), .val (.ref w_NATIVE), .val (.ref w_d), .val .null, .unset, .unset, .unset] [(.int p3), .null, (.ref w_NATIVE), (.ref b7), (.ref b7)])) _
    refine st8.trans ?_
    show Steps p.tables e below (T8.setTop (mkF m 48 #[.val (.int p1), .val (.int p2), .val (.int p3), .val (.int p4), .val (.ref w_NATIVE), .val (.ref w_d), .val .null, .unset, .unset, .unset] [(.ref b7)])) _
    refine XS.astore X8.here hx rfl (hb hby at_48) rfl rfl (l' := #[.val (.int p1), .val (.int p2), .val (.int p3), .val (.int p4), .val (.ref w_NATIVE), .val (.ref w_d), .val .null, .val (.ref b7), .unset, .unset]) rfl ?_
    show Steps p.tables e below (T8.setTop (mkF m 50 #[.val (.int p1), .val (.int p2), .val (.int p3), .val (.int p4), .val (.ref w_NATIVE), .val (.ref w_d), .val .null, .val (.ref b7), .unset, .unset] [])) _
    refine XS.aload X8.here hx rfl (hb hby at_50) rfl rfl ?_
    show Steps p.tables e below (T8.setTop (mkF m 52 #[.val (.int p1), .val (.int p2), .val (.int p3), .val (.int p4), .val (.ref w_NATIVE), .val (.ref w_d), .val .null, .val (.ref b7), .unset, .unset] [(.ref b7)])) _
    refine XS.aload X8.here hx rfl (hb hby at_52) rfl rfl ?_
    show Steps p.tables e below (T8.setTop (mkF m 54 #[.val (.int p1), .val (.int p2), .val (.int p3), .val (.int p4), .val (.ref w_NATIVE), .val (.ref w_d), .val .null, .val (.ref b7), .unset, .unset] [(.ref w_d), (.ref b7)])) _
    refine st9.trans ?_
    show Steps p.tables e below (T9.setTop (mkF m 57 #[.val (.int p1), .val (.int p2), .val (.int p3), .val (.int p4), .val (.ref w_NATIVE), .val (.ref w_d), .val .null, .val (.ref b7), .unset, .unset] [(.ref w_SEQUENCE)])) _
    refine XS.astore X9.here hx rfl (hb hby at_57) rfl rfl (l' := #[.val (.int p1), .val (.int p2), .val (.int p3), .val (.int p4), .val (.ref w_NATIVE), .val (.ref w_d), .val .null, .val (.ref b7), .val (.ref w_SEQUENCE), .unset]) rfl ?_
    show Steps p.tables e below (T9.setTop (mkF m 59 #[.val (.int p1), .val (.int p2), .val (.int p3), .val (.int p4), .val (.ref w_NATIVE), .val (.ref w_d), .val .null, .val (.ref b7), .val (.ref w_SEQUENCE), .unset] [])) _
    refine XS.aload X9.here hx rfl (hb hby at_59) rfl rfl ?_
    show Steps p.tables e below (T9.setTop (mkF m 61 #[.val (.int p1), .val (.int p2), .val (.int p3), .val (.int p4), .val (.ref w_NATIVE), .val (.ref w_d), .val .null, .val (.ref b7), .val (.ref w_SEQUENCE), .unset] [(.ref w_NATIVE)])) _
    refine st10 _ ?_
    show Steps p.tables e below (T10.setTop (mkF m 64 #[.val (.int p1), .val (.int p2), .val (.int p3), .val (.int p4), .val (.ref w_NATIVE), .val (.ref w_d), .val .null, .val (.ref b7), .val (.ref w_SEQUENCE), .unset] [(.ref w_NATIVE), (.ref w_NATIVE)])) _
    refine Jvm.RoadKit.acmp (g := (mkF m 64 #[.val (.int p1), .val (.int p2), .val (.int p3), .val (.int p4), .val (.ref w_NATIVE), .val (.ref w_d), .val .null, .val (.ref b7), .val (.ref w_SEQUENCE), .unset] [(.ref w_NATIVE), (.ref w_NATIVE)])) X10 hx rfl rfl rfl (pc0 := 64) (pc' := 74) (same := true) rfl (hb hby at_64) rfl (decide_eq_true rfl) (by decide) (by decide) ?_
    show Steps p.tables e below (T10.setTop (mkF m 74 #[.val (.int p1), .val (.int p2), .val (.int p3), .val (.int p4), .val (.ref w_NATIVE), .val (.ref w_d), .val .null, .val (.ref b7), .val (.ref w_SEQUENCE), .unset] [])) _
    refine XS.aload X10.here hx rfl (hb hby at_74) rfl rfl ?_
    show Steps p.tables e below (T10.setTop (mkF m 76 #[.val (.int p1), .val (.int p2), .val (.int p3), .val (.int p4), .val (.ref w_NATIVE), .val (.ref w_d), .val .null, .val (.ref b7), .val (.ref w_SEQUENCE), .unset] [(.ref w_d)])) _
    refine st11.trans ?_
    show Steps p.tables e below (T11.setTop (mkF m 79 #[.val (.int p1), .val (.int p2), .val (.int p3), .val (.int p4), .val (.ref w_NATIVE), .val (.ref w_d), .val .null, .val (.ref b7), .val (.ref w_SEQUENCE), .unset] [(.int (1 : Int32))])) _
    refine XS.ifNo X11.here hx rfl (hb hby at_79) rfl ((if0 _ _).trans (feq hc79).1) ?_
    show Steps p.tables e below (T11.setTop (mkF m 82 #[.val (.int p1), .val (.int p2), .val (.int p3), .val (.int p4), .val (.ref w_NATIVE), .val (.ref w_d), .val .null, .val (.ref b7), .val (.ref w_SEQUENCE), .unset] [])) _
    refine st12 _ ?_
    show Steps p.tables e below (T12.setTop (mkF m 85 #[.val (.int p1), .val (.int p2), .val (.int p3), .val (.int p4), .val (.ref w_NATIVE), .val (.ref w_d), .val .null, .val (.ref b7), .val (.ref w_SEQUENCE), .unset] [(.ref w_SEQUENCE)])) _
    refine XS.astore X12.here hx rfl (hb hby at_85) rfl rfl (l' := #[.val (.int p1), .val (.int p2), .val (.int p3), .val (.int p4), .val (.ref w_NATIVE), .val (.ref w_d), .val .null, .val (.ref b7), .val (.ref w_SEQUENCE), .val (.ref w_SEQUENCE)]) rfl ?_
    show Steps p.tables e below (T12.setTop (mkF m 87 #[.val (.int p1), .val (.int p2), .val (.int p3), .val (.int p4), .val (.ref w_NATIVE), .val (.ref w_d), .val .null, .val (.ref b7), .val (.ref w_SEQUENCE), .val (.ref w_SEQUENCE)] [])) _
    refine XS.goto X12.here hx rfl (pc0 := 87) (pc' := 95) rfl (hb hby at_87) (by decide) (by decide) ?_
    show Steps p.tables e below (T12.setTop (mkF m 95 #[.val (.int p1), .val (.int p2), .val (.int p3), .val (.int p4), .val (.ref w_NATIVE), .val (.ref w_d), .val .null, .val (.ref b7), .val (.ref w_SEQUENCE), .val (.ref w_SEQUENCE)] [])) _
    refine XS.aload X12.here hx rfl (hb hby at_95) rfl rfl ?_
    show Steps p.tables e below (T12.setTop (mkF m 97 #[.val (.int p1), .val (.int p2), .val (.int p3), .val (.int p4), .val (.ref w_NATIVE), .val (.ref w_d), .val .null, .val (.ref b7), .val (.ref w_SEQUENCE), .val (.ref w_SEQUENCE)] [(.ref w_SEQUENCE)])) _
    refine XS.aload X12.here hx rfl (hb hby at_97) rfl rfl ?_
    show Steps p.tables e below (T12.setTop (mkF m 99 #[.val (.int p1), .val (.int p2), .val (.int p3), .val (.int p4), .val (.ref w_NATIVE), .val (.ref w_d), .val .null, .val (.ref b7), .val (.ref w_SEQUENCE), .val (.ref w_SEQUENCE)] [(.ref w_SEQUENCE), (.ref w_SEQUENCE)])) _
    refine Jvm.RoadKit.acmp (g := (mkF m 99 #[.val (.int p1), .val (.int p2), .val (.int p3), .val (.int p4), .val (.ref w_NATIVE), .val (.ref w_d), .val .null, .val (.ref b7), .val (.ref w_SEQUENCE), .val (.ref w_SEQUENCE)] [(.ref w_SEQUENCE), (.ref w_SEQUENCE)])) X12 hx rfl rfl rfl (pc0 := 99) (pc' := 102) (same := true) rfl (hb hby at_99) rfl (decide_eq_true rfl) (by decide) (by decide) ?_
    show Steps p.tables e below (T12.setTop (mkF m 102 #[.val (.int p1), .val (.int p2), .val (.int p3), .val (.int p4), .val (.ref w_NATIVE), .val (.ref w_d), .val .null, .val (.ref b7), .val (.ref w_SEQUENCE), .val (.ref w_SEQUENCE)] [])) _
    refine XS.aload X12.here hx rfl (hb hby at_102) rfl rfl ?_
    show Steps p.tables e below (T12.setTop (mkF m 104 #[.val (.int p1), .val (.int p2), .val (.int p3), .val (.int p4), .val (.ref w_NATIVE), .val (.ref w_d), .val .null, .val (.ref b7), .val (.ref w_SEQUENCE), .val (.ref w_SEQUENCE)] [(.ref b7)])) _
    refine st13.trans ?_
    show Steps p.tables e below (T13.setTop (mkF m 107 #[.val (.int p1), .val (.int p2), .val (.int p3), .val (.int p4), .val (.ref w_NATIVE), .val (.ref w_d), .val .null, .val (.ref b7), .val (.ref w_SEQUENCE), .val (.ref w_SEQUENCE)] [(.ref w_NATIVE)])) _
    refine XS.aload X13.here hx rfl (hb hby at_107) rfl rfl ?_
    show Steps p.tables e below (T13.setTop (mkF m 109 #[.val (.int p1), .val (.int p2), .val (.int p3), .val (.int p4), .val (.ref w_NATIVE), .val (.ref w_d), .val .null, .val (.ref b7), .val (.ref w_SEQUENCE), .val (.ref w_SEQUENCE)] [(.ref w_NATIVE), (.ref w_NATIVE)])) _
    refine Jvm.RoadKit.acmp (g := (mkF m 109 #[.val (.int p1), .val (.int p2), .val (.int p3), .val (.int p4), .val (.ref w_NATIVE), .val (.ref w_d), .val .null, .val (.ref b7), .val (.ref w_SEQUENCE), .val (.ref w_SEQUENCE)] [(.ref w_NATIVE), (.ref w_NATIVE)])) X13 hx rfl rfl rfl (pc0 := 109) (pc' := 112) (same := true) rfl (hb hby at_109) rfl (decide_eq_true rfl) (by decide) (by decide) ?_
    show Steps p.tables e below (T13.setTop (mkF m 112 #[.val (.int p1), .val (.int p2), .val (.int p3), .val (.int p4), .val (.ref w_NATIVE), .val (.ref w_d), .val .null, .val (.ref b7), .val (.ref w_SEQUENCE), .val (.ref w_SEQUENCE)] [])) _
    refine XS.iconst X13.here hx rfl (hb hby at_112) ?_
    show Steps p.tables e below (T13.setTop (mkF m 113 #[.val (.int p1), .val (.int p2), .val (.int p3), .val (.int p4), .val (.ref w_NATIVE), .val (.ref w_d), .val .null, .val (.ref b7), .val (.ref w_SEQUENCE), .val (.ref w_SEQUENCE)] [(.int (1 : Int32))])) _
    refine XS.goto X13.here hx rfl (pc0 := 113) (pc' := 117) rfl (hb hby at_113) (by decide) (by decide) ?_
    show Steps p.tables e below (T13.setTop (mkF m 117 #[.val (.int p1), .val (.int p2), .val (.int p3), .val (.int p4), .val (.ref w_NATIVE), .val (.ref w_d), .val .null, .val (.ref b7), .val (.ref w_SEQUENCE), .val (.ref w_SEQUENCE)] [(.int (1 : Int32))])) _
    exact retN X13 hx (t := .boolean) Bd.returns (by simp) (hb hby at_117) hr
  · show QL (some (.int (1 : Int32))) n0 _ T13.heap _
    rw [eq13]
    exact ⟨rfl, N13⟩

set_option maxRecDepth 65536 in
set_option maxHeartbeats 40000000 in
theorem rm0_t3 (l : Launch) (Z : State) (a0 : Array Value) (hw : ∀ d ∈ tables_1, d.before a0 Z = true) (ws : List Jvm.Cond) (p1 : Int32) (p2 : Int32) (p3 : Int32) (p4 : Int32) (w_ASSIGNED : Addr) (w_SEQUENCE : Addr) (w_IDENTITY : Addr) (w_NATIVE : Addr) (w_H2 : Addr) (w_POSTGRESQL : Addr) (w_MARIADB : Addr) (w_d : Addr) (w_COMPACT_STRINGS : Int32) (h0 : Heap) (n0 : Nat) (Z0 : n0 ≤ h0.size) (S_ASSIGNED : Sta Z h0 "com/example/hydrate/hydrate/mapping/IdGenerator$Kind" "ASSIGNED" "Lcom/example/hydrate/hydrate/mapping/IdGenerator$Kind;" (.ref w_ASSIGNED)) (S_SEQUENCE : Sta Z h0 "com/example/hydrate/hydrate/mapping/IdGenerator$Kind" "SEQUENCE" "Lcom/example/hydrate/hydrate/mapping/IdGenerator$Kind;" (.ref w_SEQUENCE)) (S_IDENTITY : Sta Z h0 "com/example/hydrate/hydrate/mapping/IdGenerator$Kind" "IDENTITY" "Lcom/example/hydrate/hydrate/mapping/IdGenerator$Kind;" (.ref w_IDENTITY)) (S_NATIVE : Sta Z h0 "com/example/hydrate/hydrate/mapping/IdGenerator$Kind" "NATIVE" "Lcom/example/hydrate/hydrate/mapping/IdGenerator$Kind;" (.ref w_NATIVE)) (S_H2 : Sta Z h0 "com/example/hydrate/hydrate/dialect/Dialect" "H2" "Lcom/example/hydrate/hydrate/dialect/Dialect;" (.ref w_H2)) (S_POSTGRESQL : Sta Z h0 "com/example/hydrate/hydrate/dialect/Dialect" "POSTGRESQL" "Lcom/example/hydrate/hydrate/dialect/Dialect;" (.ref w_POSTGRESQL)) (S_MARIADB : Sta Z h0 "com/example/hydrate/hydrate/dialect/Dialect" "MARIADB" "Lcom/example/hydrate/hydrate/dialect/Dialect;" (.ref w_MARIADB)) (E_w_d : Exa Z h0 w_d "com/example/hydrate/hydrate/dialect/Dialect$3") (hk : Kd (p1 &&& (3 : Int32)) w_NATIVE w_ASSIGNED w_SEQUENCE w_IDENTITY w_NATIVE) (hd : Dl (HMod.hMod (p2 &&& (2147483647 : Int32)) (3 : Int32)) w_d w_H2 w_POSTGRESQL w_MARIADB) (hcs : ¬ (w_COMPACT_STRINGS = (0 : Int32))) (S_COMPACT_STRINGS : Sta Z h0 "java/lang/String" "COMPACT_STRINGS" "Z" (.int w_COMPACT_STRINGS)) (F_nativeSequences_w_d : Fld Z h0 w_d "com/example/hydrate/hydrate/dialect/Dialect" "nativeSequences" "Z" (.int (0 : Int32))) (hc18 : (((p4.toUInt32 >>> ((8 : Int32) &&& 31).toUInt32).toInt32) &&& (1 : Int32)) = (0 : Int32)) :
    MetFree l x (head1 (Jvm.Cond.code x code maxLocals ret :: ws) room_1) (fun a U => a = #[(.int p1), (.int p2), (.int p3), (.int p4)] ∧ Z.Warmed39 U.vm ∧ U.heap = h0) (fun _ _ _ _ _ => True) (fun _ U o U' => ∃ v L, o = .returned v ∧ QL (some (.int (1 : Int32))) n0 v U'.heap L ∧ FrameEnd U o U' L room_1.cells room_1.slots) := by
  refine MetFree.of_bodySF (plainFor_of_name pn_0) hisR ?_
  intro p e s m args below meth c s₁ Bd hml0 hP hK
  obtain ⟨rfl, hZ, hh⟩ := hP
  have hx := Bd.exec
  have hby := Bd.bytes
  have hml : c.maxLocals = 10 := hml0
  have hown : s.vm.findClass "com/example/hydrate/hydrate/mapping/IdGeneratorOnPinLaw" = some m.cls := findClass_of_methodNamed Bd.named
  have hnm := (name_of_methodNamed Bd.named Bd.method).1
  have X0 : Stand p l e room_1 s m #[(.int p1), (.int p2), (.int p3), (.int p4)] below meth c s₁ [] 0 0 := Stand.of_body Bd
  have e0 : s₁.heap = h0 := by rw [← hh, Bd.state]; rfl
  have N0 := Fr.nil n0
  have pre0 : ∀ t, Steps p.tables e below (s₁.setTop (mkF m 0 #[.val (.int p1), .val (.int p2), .val (.int p3), .val (.int p4), .unset, .unset, .unset, .unset, .unset, .unset] [])) t → Steps p.tables e below (s₁.setTop (entryFrame m #[(.int p1), (.int p2), (.int p3), (.int p4)] maxLocals)) t := fun t k => castTop (ef_0 m p1 p2 p3 p4) k
  obtain ⟨_, _, ⟨T5, L5, k5, n5⟩, -, X5, ⟨Lc5, hQ5, l5, y5, z5⟩, st5⟩ := Jvm.LawKit.callS X0 hx (y := (⟨"com/example/hydrate/hydrate/mapping/IdGeneratorOnPinLaw", "kindOf", "(I)Lcom/example/hydrate/hydrate/mapping/IdGenerator$Kind;"⟩ : MethodName)) hown (mvT hZ (hw _ (List.mem_of_getElem? (i := 0) rfl))) (mvT hZ (hw _ (List.mem_of_getElem? (i := 1) rfl))) (mvT hZ (hw _ (List.mem_of_getElem? (i := 2) rfl))) (mvT hZ (hw _ (List.mem_of_getElem? (i := 3) rfl))) (by decide) (backOf (W := 0) (rm1 l Z a0 hw [] p1 w_ASSIGNED w_SEQUENCE w_IDENTITY w_NATIVE w_NATIVE h0 n0 Z0 S_ASSIGNED S_SEQUENCE S_IDENTITY S_NATIVE hk) hZ (hw _ (List.mem_of_getElem? (i := 3) rfl)) (hw _ (List.mem_of_getElem? (i := 2) rfl)) (by decide) (by decide)) (g := (mkF m 1 #[.val (.int p1), .val (.int p2), .val (.int p3), .val (.int p4), .unset, .unset, .unset, .unset, .unset, .unset] [(.int p1)])) rfl (by rw [hml]; rfl) (argsL := [(.int p1)]) (rest := []) (lenOf pd_0_0 rfl) rfl (by show 2 * 0 + _ ≤ _; exact Nat.le_of_eq rfl) (hb hby at_1) (fun _ _ => ⟨rfl, e0, (by decide : 0 + 0 ≤ _), (by decide : 0 + 0 ≤ _)⟩)
  dsimp only [Pt.U, Pt.locs, Pt.cells, Pt.slots] at X5 l5 y5 z5 st5 hQ5
  subst l5 y5 z5
  obtain ⟨rfl, N5q, eq5⟩ := hQ5
  have N5 := Fr.app N0 N5q
  obtain ⟨_, _, ⟨T6, L6, k6, n6⟩, -, X6, ⟨Lc6, hQ6, l6, y6, z6⟩, st6⟩ := Jvm.LawKit.callS X5 hx (y := (⟨"com/example/hydrate/hydrate/mapping/IdGeneratorOnPinLaw", "dialectOf", "(I)Lcom/example/hydrate/hydrate/dialect/Dialect;"⟩ : MethodName)) hown (mvT hZ (hw _ (List.mem_of_getElem? (i := 7) rfl))) (mvT hZ (hw _ (List.mem_of_getElem? (i := 8) rfl))) (mvT hZ (hw _ (List.mem_of_getElem? (i := 2) rfl))) (mvT hZ (hw _ (List.mem_of_getElem? (i := 9) rfl))) (by decide) (backOf (W := 0) (rm2 l Z a0 hw [] p2 w_H2 w_POSTGRESQL w_MARIADB w_d h0 n0 Z0 S_H2 S_POSTGRESQL S_MARIADB hd) hZ (hw _ (List.mem_of_getElem? (i := 9) rfl)) (hw _ (List.mem_of_getElem? (i := 2) rfl)) (by decide) (by decide)) (g := (mkF m 7 #[.val (.int p1), .val (.int p2), .val (.int p3), .val (.int p4), .val (.ref w_NATIVE), .unset, .unset, .unset, .unset, .unset] [(.int p2)])) rfl (by rw [hml]; rfl) (argsL := [(.int p2)]) (rest := []) (lenOf pd_0_1 rfl) rfl (by show 2 * 0 + _ ≤ _; exact Nat.le_of_eq rfl) (hb hby at_7) (fun _ _ => ⟨rfl, eq5, (by decide : 0 + 0 ≤ _), (by decide : 0 + 0 ≤ _)⟩)
  dsimp only [Pt.U, Pt.locs, Pt.cells, Pt.slots] at X6 l6 y6 z6 st6 hQ6
  subst l6 y6 z6
  obtain ⟨rfl, N6q, eq6⟩ := hQ6
  have N6 := Fr.app N5 N6q
  obtain ⟨T7, h7, X7, e7, E7, A7, D7, -, st7⟩ := newO X6 hx hZ hown (hw _ (List.mem_of_getElem? (i := 14) rfl)) (hw _ (List.mem_of_getElem? (i := 15) rfl)) (hw _ (List.mem_of_getElem? (i := 16) rfl)) eq6 (g := (mkF m 36 #[.val (.int p1), .val (.int p2), .val (.int p3), .val (.int p4), .val (.ref w_NATIVE), .val (.ref w_d), .val .null, .unset, .unset, .unset] [])) rfl (hb hby at_36) (by decide) (by decide)
  obtain ⟨b7, g7⟩ : ∃ z, z = h0.size := ⟨_, rfl⟩      -- the fresh object's address
  rw [← g7] at A7 D7 st7      -- A7 : Exa Z h7 b7 "com/example/hydrate/hydrate/mapping/IdGenerator"; E7 : Ext h0 h7 (carries every older fact: .ext E7)
  have F_kind_b7 : Fld Z h7 b7 "com/example/hydrate/hydrate/mapping/IdGenerator" "kind" "Lcom/example/hydrate/hydrate/mapping/IdGenerator$Kind;" .null := D7 (Or.inr (hw _ (List.mem_of_getElem? (i := 29) rfl))) (ty := (.object "com/example/hydrate/hydrate/mapping/IdGenerator$Kind")) (by decide)
  have F_sequence_b7 : Fld Z h7 b7 "com/example/hydrate/hydrate/mapping/IdGenerator" "sequence" "Ljava/lang/String;" .null := D7 (Or.inr (hw _ (List.mem_of_getElem? (i := 31) rfl))) (ty := (.object "java/lang/String")) (by decide)
  have F_increment_b7 : Fld Z h7 b7 "com/example/hydrate/hydrate/mapping/IdGenerator" "increment" "I" (.int (0 : Int32)) := D7 (Or.inr (hw _ (List.mem_of_getElem? (i := 33) rfl))) (ty := .int) (by decide)
  have E_b7 := A7
  have g_b7 : n0 ≤ b7 := Nat.le_trans Z0 (Nat.le_of_eq g7.symm)
  have sz_b7 : h0.size ≤ b7 := (Nat.le_trans (Keep.refl h0 []).1 (Nat.le_of_eq g7.symm))
  have K7 : Keep h0 h7 [] := (Keep.refl h0 []).ext E7
  obtain ⟨_, _, ⟨T8, L8, k8, n8⟩, -, X8, ⟨Lc8, hQ8, l8, y8, z8⟩, st8⟩ := X7.specialBack hx (y := (⟨"com/example/hydrate/hydrate/mapping/IdGenerator", "<init>", "(Lcom/example/hydrate/hydrate/mapping/IdGenerator$Kind;Ljava/lang/String;I)V"⟩ : MethodName)) rfl hown (mvT hZ (hw _ (List.mem_of_getElem? (i := 17) rfl))) (mvT hZ (hw _ (List.mem_of_getElem? (i := 18) rfl))) (mvT hZ (hw _ (List.mem_of_getElem? (i := 19) rfl))) (by decide) (backOf (W := 1) (rm3n l Z a0 hw [] b7 w_NATIVE p3 .null .null ((.int (0 : Int32))) h7 n0 (Nat.le_trans Z0 E7.1) E_b7 F_kind_b7 g_b7 F_sequence_b7 F_increment_b7) hZ (hw _ (List.mem_of_getElem? (i := 19) rfl)) (hw _ (List.mem_of_getElem? (i := 16) rfl)) (by decide) (by decide)) (g := (mkF m 45 #[.val (.int p1), .val (.int p2), .val (.int p3), .val (.int p4), .val (.ref w_NATIVE), .val (.ref w_d), .val .null, .unset, .unset, .unset] [(.int p3), .null, (.ref w_NATIVE), (.ref b7), (.ref b7)])) rfl (by rw [hml]; rfl) (Steps.refl _) (a := b7) (argsL := [(.ref w_NATIVE), .null, (.int p3)]) (rest := [(.ref b7)]) (lenOf pd_0_2 rfl) rfl (by show 2 * 0 + _ ≤ _; exact Nat.le_of_eq rfl) (hb hby at_45) (fun _ _ => ⟨rfl, e7, (by decide : 1 + 0 ≤ _), (by decide : 3 + 0 ≤ _)⟩)
  dsimp only [Pt.U, Pt.locs, Pt.cells, Pt.slots] at X8 l8 y8 z8 st8 hQ8
  subst l8 y8 z8
  obtain ⟨rfl, N8q, Kc8, Ex8, Fk8, Fs8, Fi8⟩ := hQ8
  have N8 := Fr.app N6 N8q
  have K8 : Keep h0 T8.heap [] := K7.trans Kc8 (allS (Or.inr sz_b7) (all0))
  obtain ⟨cq9, kq9, q9a, q9b, q9c⟩ := isOf hZ rfl (E_b7.keep Kc8)
  obtain ⟨_, _, ⟨T9, L9, k9, n9⟩, -, X9, ⟨Lc9, hQ9, l9, y9, z9⟩, st9⟩ := X8.virtualBack hx (y := (⟨"com/example/hydrate/hydrate/mapping/IdGenerator", "on", "(Lcom/example/hydrate/hydrate/dialect/Dialect;)Lcom/example/hydrate/hydrate/mapping/IdGenerator$Kind;"⟩ : MethodName)) (z := (⟨"com/example/hydrate/hydrate/mapping/IdGenerator", "on", "(Lcom/example/hydrate/hydrate/dialect/Dialect;)Lcom/example/hydrate/hydrate/mapping/IdGenerator$Kind;"⟩ : MethodName)) hown (mvT hZ (hw _ (List.mem_of_getElem? (i := 34) rfl))) (mvT hZ (hw _ (List.mem_of_getElem? (i := 35) rfl))) (notFace_of_selects (args := #[]) (mvT hZ (hw _ (List.mem_of_getElem? (i := 37) rfl)))) (mvT hZ (hw _ (List.mem_of_getElem? (i := 37) rfl))) (mvT hZ (hw _ (List.mem_of_getElem? (i := 36) rfl))) (by decide) (backOf (W := 0) (rm6_3 l Z a0 hw [] b7 w_d w_ASSIGNED w_SEQUENCE w_IDENTITY w_NATIVE w_NATIVE T8.heap n0 (Nat.le_trans (Nat.le_trans Z0 E7.1) Kc8.1) (own_stak1 (S_ASSIGNED.ext E7) Kc8 E_b7) (own_stak1 (S_SEQUENCE.ext E7) Kc8 E_b7) (own_stak1 (S_IDENTITY.ext E7) Kc8 E_b7) (own_stak1 (S_NATIVE.ext E7) Kc8 E_b7) ((F_nativeSequences_w_d.ext E7).keep Kc8 (ninS (Nat.ne_of_lt (Nat.lt_of_lt_of_le E_w_d.lt (Nat.le_of_eq g7.symm))) nin0)) Fk8 ((E_w_d.ext E7).keep Kc8) rfl) hZ (hw _ (List.mem_of_getElem? (i := 38) rfl)) (hw _ (List.mem_of_getElem? (i := 16) rfl)) (by decide) (by decide)) q9a q9c (g := (mkF m 54 #[.val (.int p1), .val (.int p2), .val (.int p3), .val (.int p4), .val (.ref w_NATIVE), .val (.ref w_d), .val .null, .val (.ref b7), .unset, .unset] [(.ref w_d), (.ref b7)])) rfl (by rw [hml]; rfl) (Steps.refl _) (argsL := [(.ref w_d)]) (rest := []) (lenOf pd_0_4 rfl) rfl (by show 2 * 0 + _ ≤ _; exact Nat.le_of_eq rfl) (hb hby at_54) (fun _ _ => ⟨rfl, rfl, (by decide : 1 + 0 ≤ _), (by decide : 3 + 0 ≤ _)⟩)
  dsimp only [Pt.U, Pt.locs, Pt.cells, Pt.slots] at X9 l9 y9 z9 st9 hQ9
  subst l9 y9 z9
  obtain ⟨rfl, N9q, eq9⟩ := hQ9
  have N9 := Fr.app N8 N9q
  obtain ⟨T10, X10, e10, st10⟩ := getS2 X9 hx hZ hown (host := "") (Or.inl (hw _ (List.mem_of_getElem? (i := 41) rfl))) Via.refl eq9 (own_stak1 (S_NATIVE.ext E7) Kc8 E_b7) (g := (mkF m 61 #[.val (.int p1), .val (.int p2), .val (.int p3), .val (.int p4), .val (.ref w_NATIVE), .val (.ref w_d), .val .null, .val (.ref b7), .val (.ref w_IDENTITY), .unset] [(.ref w_NATIVE)])) rfl (hb hby at_61)
  obtain ⟨cq11, kq11, q11a, q11b, q11c⟩ := isOf hZ e10 ((E_w_d.ext E7).keep Kc8)
  obtain ⟨_, _, ⟨T11, L11, k11, n11⟩, -, X11, ⟨Lc11, hQ11, l11, y11, z11⟩, st11⟩ := X10.virtualBack hx (y := (⟨"com/example/hydrate/hydrate/dialect/Dialect", "nativeSequences", "()Z"⟩ : MethodName)) (z := (⟨"com/example/hydrate/hydrate/dialect/Dialect", "nativeSequences", "()Z"⟩ : MethodName)) hown (mvT hZ (hw _ (List.mem_of_getElem? (i := 58) rfl))) (mvT hZ (hw _ (List.mem_of_getElem? (i := 50) rfl))) (notFace_of_selects (args := #[]) (mvT hZ (hw _ (List.mem_of_getElem? (i := 88) rfl)))) (mvT hZ (hw _ (List.mem_of_getElem? (i := 88) rfl))) (mvT hZ (hw _ (List.mem_of_getElem? (i := 51) rfl))) (by decide) (backOf (W := 0) (rm8_0 l Z a0 hw [] w_d T8.heap n0 (Nat.le_trans (Nat.le_trans Z0 E7.1) Kc8.1) ((F_nativeSequences_w_d.ext E7).keep Kc8 (ninS (Nat.ne_of_lt (Nat.lt_of_lt_of_le E_w_d.lt (Nat.le_of_eq g7.symm))) nin0))) hZ (hw _ (List.mem_of_getElem? (i := 53) rfl)) (hw _ (List.mem_of_getElem? (i := 12) rfl)) (by decide) (by decide)) q11a q11c (g := (mkF m 76 #[.val (.int p1), .val (.int p2), .val (.int p3), .val (.int p4), .val (.ref w_NATIVE), .val (.ref w_d), .val .null, .val (.ref b7), .val (.ref w_IDENTITY), .unset] [(.ref w_d)])) rfl (by rw [hml]; rfl) (Steps.refl _) (argsL := []) (rest := []) (lenOf pd_0_6 rfl) rfl (by show 2 * 0 + _ ≤ _; exact Nat.le_of_eq rfl) (hb hby at_76) (fun _ _ => ⟨rfl, e10, (by decide : 1 + 0 ≤ _), (by decide : 3 + 0 ≤ _)⟩)
  dsimp only [Pt.U, Pt.locs, Pt.cells, Pt.slots] at X11 l11 y11 z11 st11 hQ11
  subst l11 y11 z11
  obtain ⟨rfl, N11q, eq11⟩ := hQ11
  have N11 := Fr.app N9 N11q
  obtain ⟨T12, X12, e12, st12⟩ := getS2 X11 hx hZ hown (host := "") (Or.inl (hw _ (List.mem_of_getElem? (i := 60) rfl))) Via.refl eq11 (own_stak1 (S_IDENTITY.ext E7) Kc8 E_b7) (g := (mkF m 90 #[.val (.int p1), .val (.int p2), .val (.int p3), .val (.int p4), .val (.ref w_NATIVE), .val (.ref w_d), .val .null, .val (.ref b7), .val (.ref w_IDENTITY), .unset] [])) rfl (hb hby at_90)
  obtain ⟨cq13, kq13, q13a, q13b, q13c⟩ := isOf hZ e12 (E_b7.keep Kc8)
  obtain ⟨_, _, ⟨T13, L13, k13, n13⟩, -, X13, ⟨Lc13, hQ13, l13, y13, z13⟩, st13⟩ := X12.virtualBack hx (y := (⟨"com/example/hydrate/hydrate/mapping/IdGenerator", "kind", "()Lcom/example/hydrate/hydrate/mapping/IdGenerator$Kind;"⟩ : MethodName)) (z := (⟨"com/example/hydrate/hydrate/mapping/IdGenerator", "kind", "()Lcom/example/hydrate/hydrate/mapping/IdGenerator$Kind;"⟩ : MethodName)) hown (mvT hZ (hw _ (List.mem_of_getElem? (i := 42) rfl))) (mvT hZ (hw _ (List.mem_of_getElem? (i := 43) rfl))) (notFace_of_selects (args := #[]) (mvT hZ (hw _ (List.mem_of_getElem? (i := 45) rfl)))) (mvT hZ (hw _ (List.mem_of_getElem? (i := 45) rfl))) (mvT hZ (hw _ (List.mem_of_getElem? (i := 44) rfl))) (by decide) (backOf (W := 0) (rm7 l Z a0 hw [] b7 w_NATIVE T8.heap n0 (Nat.le_trans (Nat.le_trans Z0 E7.1) Kc8.1) Fk8) hZ (hw _ (List.mem_of_getElem? (i := 46) rfl)) (hw _ (List.mem_of_getElem? (i := 16) rfl)) (by decide) (by decide)) q13a q13c (g := (mkF m 104 #[.val (.int p1), .val (.int p2), .val (.int p3), .val (.int p4), .val (.ref w_NATIVE), .val (.ref w_d), .val .null, .val (.ref b7), .val (.ref w_IDENTITY), .val (.ref w_IDENTITY)] [(.ref b7)])) rfl (by rw [hml]; rfl) (Steps.refl _) (argsL := []) (rest := []) (lenOf pd_0_5 rfl) rfl (by show 2 * 0 + _ ≤ _; exact Nat.le_of_eq rfl) (hb hby at_104) (fun _ _ => ⟨rfl, e12, (by decide : 1 + 0 ≤ _), (by decide : 3 + 0 ≤ _)⟩)
  dsimp only [Pt.U, Pt.locs, Pt.cells, Pt.slots] at X13 l13 y13 z13 st13 hQ13
  subst l13 y13 z13
  obtain ⟨rfl, N13q, eq13⟩ := hQ13
  have N13 := Fr.app N11 N13q
  obtain ⟨fs, hr, hrun, hended, hW, hsame⟩ := X13.leave (v := some (.int (1 : Int32))) (fun h => by rw [Bd.returns] at h; cases h)
  refine ⟨_, _, pre0 _ ?_, hrun, hended, _, _, rfl, ?_, ⟨_, rfl⟩, hW, hsame.mono (by decide) (by decide)⟩
  · show Steps p.tables e below (s₁.setTop (mkF m 0 #[.val (.int p1), .val (.int p2), .val (.int p3), .val (.int p4), .unset, .unset, .unset, .unset, .unset, .unset] [])) _
    refine XS.iloadN X0.here hx rfl (hb hby at_0) rfl ?_
    show Steps p.tables e below (s₁.setTop (mkF m 1 #[.val (.int p1), .val (.int p2), .val (.int p3), .val (.int p4), .unset, .unset, .unset, .unset, .unset, .unset] [(.int p1)])) _
    refine st5 _ ?_
    show Steps p.tables e below (T5.setTop (mkF m 4 #[.val (.int p1), .val (.int p2), .val (.int p3), .val (.int p4), .unset, .unset, .unset, .unset, .unset, .unset] [(.ref w_NATIVE)])) _
    refine XS.astore X5.here hx rfl (hb hby at_4) rfl rfl (l' := #[.val (.int p1), .val (.int p2), .val (.int p3), .val (.int p4), .val (.ref w_NATIVE), .unset, .unset, .unset, .unset, .unset]) rfl ?_
    show Steps p.tables e below (T5.setTop (mkF m 6 #[.val (.int p1), .val (.int p2), .val (.int p3), .val (.int p4), .val (.ref w_NATIVE), .unset, .unset, .unset, .unset, .unset] [])) _
    refine XS.iloadN X5.here hx rfl (hb hby at_6) rfl ?_
    show Steps p.tables e below (T5.setTop (mkF m 7 #[.val (.int p1), .val (.int p2), .val (.int p3), .val (.int p4), .val (.ref w_NATIVE), .unset, .unset, .unset, .unset, .unset] [(.int p2)])) _
    refine st6 _ ?_
    show Steps p.tables e below (T6.setTop (mkF m 10 #[.val (.int p1), .val (.int p2), .val (.int p3), .val (.int p4), .val (.ref w_NATIVE), .unset, .unset, .unset, .unset, .unset] [(.ref w_d)])) _
    refine XS.astore X6.here hx rfl (hb hby at_10) rfl rfl (l' := #[.val (.int p1), .val (.int p2), .val (.int p3), .val (.int p4), .val (.ref w_NATIVE), .val (.ref w_d), .unset, .unset, .unset, .unset]) rfl ?_
    show Steps p.tables e below (T6.setTop (mkF m 12 #[.val (.int p1), .val (.int p2), .val (.int p3), .val (.int p4), .val (.ref w_NATIVE), .val (.ref w_d), .unset, .unset, .unset, .unset] [])) _
    refine XS.iloadN X6.here hx rfl (hb hby at_12) rfl ?_
    show Steps p.tables e below (T6.setTop (mkF m 13 #[.val (.int p1), .val (.int p2), .val (.int p3), .val (.int p4), .val (.ref w_NATIVE), .val (.ref w_d), .unset, .unset, .unset, .unset] [(.int p4)])) _
    refine XS.bipush X6.here hx rfl (hb hby at_13) ?_
    show Steps p.tables e below (T6.setTop (mkF m 15 #[.val (.int p1), .val (.int p2), .val (.int p3), .val (.int p4), .val (.ref w_NATIVE), .val (.ref w_d), .unset, .unset, .unset, .unset] [(.int (8 : Int32)), (.int p4)])) _
    refine XS.iushr X6.here hx rfl (hb hby at_15) rfl ?_
    show Steps p.tables e below (T6.setTop (mkF m 16 #[.val (.int p1), .val (.int p2), .val (.int p3), .val (.int p4), .val (.ref w_NATIVE), .val (.ref w_d), .unset, .unset, .unset, .unset] [(.int ((p4.toUInt32 >>> ((8 : Int32) &&& 31).toUInt32).toInt32))])) _
    refine XS.iconst X6.here hx rfl (hb hby at_16) ?_
    show Steps p.tables e below (T6.setTop (mkF m 17 #[.val (.int p1), .val (.int p2), .val (.int p3), .val (.int p4), .val (.ref w_NATIVE), .val (.ref w_d), .unset, .unset, .unset, .unset] [(.int (1 : Int32)), (.int ((p4.toUInt32 >>> ((8 : Int32) &&& 31).toUInt32).toInt32))])) _
    refine XS.iand X6.here hx rfl (hb hby at_17) rfl ?_
    show Steps p.tables e below (T6.setTop (mkF m 18 #[.val (.int p1), .val (.int p2), .val (.int p3), .val (.int p4), .val (.ref w_NATIVE), .val (.ref w_d), .unset, .unset, .unset, .unset] [(.int (((p4.toUInt32 >>> ((8 : Int32) &&& 31).toUInt32).toInt32) &&& (1 : Int32)))])) _
    refine XS.ifYes X6.here hx rfl (pc0 := 18) (pc' := 33) rfl (hb hby at_18) rfl ((if0 _ _).trans (teq hc18).1) (by decide) (by decide) ?_
    show Steps p.tables e below (T6.setTop (mkF m 33 #[.val (.int p1), .val (.int p2), .val (.int p3), .val (.int p4), .val (.ref w_NATIVE), .val (.ref w_d), .unset, .unset, .unset, .unset] [])) _
    refine XS.aconstNull X6.here hx rfl (hb hby at_33) ?_
    show Steps p.tables e below (T6.setTop (mkF m 34 #[.val (.int p1), .val (.int p2), .val (.int p3), .val (.int p4), .val (.ref w_NATIVE), .val (.ref w_d), .unset, .unset, .unset, .unset] [.null])) _
    refine XS.astore X6.here hx rfl (hb hby at_34) rfl rfl (l' := #[.val (.int p1), .val (.int p2), .val (.int p3), .val (.int p4), .val (.ref w_NATIVE), .val (.ref w_d), .val .null, .unset, .unset, .unset]) rfl ?_
    show Steps p.tables e below (T6.setTop (mkF m 36 #[.val (.int p1), .val (.int p2), .val (.int p3), .val (.int p4), .val (.ref w_NATIVE), .val (.ref w_d), .val .null, .unset, .unset, .unset] [])) _
    refine st7 _ ?_
    show Steps p.tables e below (T7.setTop (mkF m 39 #[.val (.int p1), .val (.int p2), .val (.int p3), .val (.int p4), .val (.ref w_NATIVE), .val (.ref w_d), .val .null, .unset, .unset, .unset] [(.ref b7)])) _
    refine XS.dup X7.here hx rfl (hb hby at_39) rfl rfl ?_
    show Steps p.tables e below (T7.setTop (mkF m 40 #[.val (.int p1), .val (.int p2), .val (.int p3), .val (.int p4), .val (.ref w_NATIVE), .val (.ref w_d), .val .null, .unset, .unset, .unset] [(.ref b7), (.ref b7)])) _
    refine XS.aload X7.here hx rfl (hb hby at_40) rfl rfl ?_
    show Steps p.tables e below (T7.setTop (mkF m 42 #[.val (.int p1), .val (.int p2), .val (.int p3), .val (.int p4), .val (.ref w_NATIVE), .val (.ref w_d), .val .null, .unset, .unset, .unset] [(.ref w_NATIVE), (.ref b7), (.ref b7)])) _
    refine XS.aload X7.here hx rfl (hb hby at_42) rfl rfl ?_
    show Steps p.tables e below (T7.setTop (mkF m 44 #[.val (.int p1), .val (.int p2), .val (.int p3), .val (.int p4), .val (.ref w_NATIVE), .val (.ref w_d), .val .null, .unset, .unset, .unset] [.null, (.ref w_NATIVE), (.ref b7), (.ref b7)])) _
    refine XS.iloadN X7.here hx rfl (hb hby at_44) rfl ?_
    show Steps p.tables e below (T7.setTop (mkF m 45 #[.val (.int p1), .val (.int p2), .val (.int p3), .val (.int p4), .val (.ref w_NATIVE), .val (.ref w_d), .val .null, .unset, .unset, .unset] [(.int p3), .null, (.ref w_NATIVE), (.ref b7), (.ref b7)])) _
    refine st8.trans ?_
    show Steps p.tables e below (T8.setTop (mkF m 48 #[.val (.int p1), .val (.int p2), .val (.int p3), .val (.int p4), .val (.ref w_NATIVE), .val (.ref w_d), .val .null, .unset, .unset, .unset] [(.ref b7)])) _
    refine XS.astore X8.here hx rfl (hb hby at_48) rfl rfl (l' := #[.val (.int p1), .val (.int p2), .val (.int p3), .val (.int p4), .val (.ref w_NATIVE), .val (.ref w_d), .val .null, .val (.ref b7), .unset, .unset]) rfl ?_
    show Steps p.tables e below (T8.setTop (mkF m 50 #[.val (.int p1), .val (.int p2), .val (.int p3), .val (.int p4), .val (.ref w_NATIVE), .val (.ref w_d), .val .null, .val (.ref b7), .unset, .unset] [])) _
    refine XS.aload X8.here hx rfl (hb hby at_50) rfl rfl ?_
    show Steps p.tables e below (T8.setTop (mkF m 52 #[.val (.int p1), .val (.int p2), .val (.int p3), .val (.int p4), .val (.ref w_NATIVE), .val (.ref w_d), .val .null, .val (.ref b7), .unset, .unset] [(.ref b7)])) _
    refine XS.aload X8.here hx rfl (hb hby at_52) rfl rfl ?_
    show Steps p.tables e below (T8.setTop (mkF m 54 #[.val (.int p1), .val (.int p2), .val (.int p3), .val (.int p4), .val (.ref w_NATIVE), .val (.ref w_d), .val .null, .val (.ref b7), .unset, .unset] [(.ref w_d), (.ref b7)])) _
    refine st9.trans ?_
    show Steps p.tables e below (T9.setTop (mkF m 57 #[.val (.int p1), .val (.int p2), .val (.int p3), .val (.int p4), .val (.ref w_NATIVE), .val (.ref w_d), .val .null, .val (.ref b7), .unset, .unset] [(.ref w_IDENTITY)])) _
    refine XS.astore X9.here hx rfl (hb hby at_57) rfl rfl (l' := #[.val (.int p1), .val (.int p2), .val (.int p3), .val (.int p4), .val (.ref w_NATIVE), .val (.ref w_d), .val .null, .val (.ref b7), .val (.ref w_IDENTITY), .unset]) rfl ?_
    show Steps p.tables e below (T9.setTop (mkF m 59 #[.val (.int p1), .val (.int p2), .val (.int p3), .val (.int p4), .val (.ref w_NATIVE), .val (.ref w_d), .val .null, .val (.ref b7), .val (.ref w_IDENTITY), .unset] [])) _
    refine XS.aload X9.here hx rfl (hb hby at_59) rfl rfl ?_
    show Steps p.tables e below (T9.setTop (mkF m 61 #[.val (.int p1), .val (.int p2), .val (.int p3), .val (.int p4), .val (.ref w_NATIVE), .val (.ref w_d), .val .null, .val (.ref b7), .val (.ref w_IDENTITY), .unset] [(.ref w_NATIVE)])) _
    refine st10 _ ?_
    show Steps p.tables e below (T10.setTop (mkF m 64 #[.val (.int p1), .val (.int p2), .val (.int p3), .val (.int p4), .val (.ref w_NATIVE), .val (.ref w_d), .val .null, .val (.ref b7), .val (.ref w_IDENTITY), .unset] [(.ref w_NATIVE), (.ref w_NATIVE)])) _
    refine Jvm.RoadKit.acmp (g := (mkF m 64 #[.val (.int p1), .val (.int p2), .val (.int p3), .val (.int p4), .val (.ref w_NATIVE), .val (.ref w_d), .val .null, .val (.ref b7), .val (.ref w_IDENTITY), .unset] [(.ref w_NATIVE), (.ref w_NATIVE)])) X10 hx rfl rfl rfl (pc0 := 64) (pc' := 74) (same := true) rfl (hb hby at_64) rfl (decide_eq_true rfl) (by decide) (by decide) ?_
    show Steps p.tables e below (T10.setTop (mkF m 74 #[.val (.int p1), .val (.int p2), .val (.int p3), .val (.int p4), .val (.ref w_NATIVE), .val (.ref w_d), .val .null, .val (.ref b7), .val (.ref w_IDENTITY), .unset] [])) _
    refine XS.aload X10.here hx rfl (hb hby at_74) rfl rfl ?_
    show Steps p.tables e below (T10.setTop (mkF m 76 #[.val (.int p1), .val (.int p2), .val (.int p3), .val (.int p4), .val (.ref w_NATIVE), .val (.ref w_d), .val .null, .val (.ref b7), .val (.ref w_IDENTITY), .unset] [(.ref w_d)])) _
    refine st11.trans ?_
    show Steps p.tables e below (T11.setTop (mkF m 79 #[.val (.int p1), .val (.int p2), .val (.int p3), .val (.int p4), .val (.ref w_NATIVE), .val (.ref w_d), .val .null, .val (.ref b7), .val (.ref w_IDENTITY), .unset] [(.int (0 : Int32))])) _
    refine XS.ifYes X11.here hx rfl (pc0 := 79) (pc' := 90) rfl (hb hby at_79) rfl ((if0 _ _).trans (teq (rfl : (0 : Int32) = (0 : Int32))).1) (by decide) (by decide) ?_
    show Steps p.tables e below (T11.setTop (mkF m 90 #[.val (.int p1), .val (.int p2), .val (.int p3), .val (.int p4), .val (.ref w_NATIVE), .val (.ref w_d), .val .null, .val (.ref b7), .val (.ref w_IDENTITY), .unset] [])) _
    refine st12 _ ?_
    show Steps p.tables e below (T12.setTop (mkF m 93 #[.val (.int p1), .val (.int p2), .val (.int p3), .val (.int p4), .val (.ref w_NATIVE), .val (.ref w_d), .val .null, .val (.ref b7), .val (.ref w_IDENTITY), .unset] [(.ref w_IDENTITY)])) _
    refine XS.astore X12.here hx rfl (hb hby at_93) rfl rfl (l' := #[.val (.int p1), .val (.int p2), .val (.int p3), .val (.int p4), .val (.ref w_NATIVE), .val (.ref w_d), .val .null, .val (.ref b7), .val (.ref w_IDENTITY), .val (.ref w_IDENTITY)]) rfl ?_
    show Steps p.tables e below (T12.setTop (mkF m 95 #[.val (.int p1), .val (.int p2), .val (.int p3), .val (.int p4), .val (.ref w_NATIVE), .val (.ref w_d), .val .null, .val (.ref b7), .val (.ref w_IDENTITY), .val (.ref w_IDENTITY)] [])) _
    refine XS.aload X12.here hx rfl (hb hby at_95) rfl rfl ?_
    show Steps p.tables e below (T12.setTop (mkF m 97 #[.val (.int p1), .val (.int p2), .val (.int p3), .val (.int p4), .val (.ref w_NATIVE), .val (.ref w_d), .val .null, .val (.ref b7), .val (.ref w_IDENTITY), .val (.ref w_IDENTITY)] [(.ref w_IDENTITY)])) _
    refine XS.aload X12.here hx rfl (hb hby at_97) rfl rfl ?_
    show Steps p.tables e below (T12.setTop (mkF m 99 #[.val (.int p1), .val (.int p2), .val (.int p3), .val (.int p4), .val (.ref w_NATIVE), .val (.ref w_d), .val .null, .val (.ref b7), .val (.ref w_IDENTITY), .val (.ref w_IDENTITY)] [(.ref w_IDENTITY), (.ref w_IDENTITY)])) _
    refine Jvm.RoadKit.acmp (g := (mkF m 99 #[.val (.int p1), .val (.int p2), .val (.int p3), .val (.int p4), .val (.ref w_NATIVE), .val (.ref w_d), .val .null, .val (.ref b7), .val (.ref w_IDENTITY), .val (.ref w_IDENTITY)] [(.ref w_IDENTITY), (.ref w_IDENTITY)])) X12 hx rfl rfl rfl (pc0 := 99) (pc' := 102) (same := true) rfl (hb hby at_99) rfl (decide_eq_true rfl) (by decide) (by decide) ?_
    show Steps p.tables e below (T12.setTop (mkF m 102 #[.val (.int p1), .val (.int p2), .val (.int p3), .val (.int p4), .val (.ref w_NATIVE), .val (.ref w_d), .val .null, .val (.ref b7), .val (.ref w_IDENTITY), .val (.ref w_IDENTITY)] [])) _
    refine XS.aload X12.here hx rfl (hb hby at_102) rfl rfl ?_
    show Steps p.tables e below (T12.setTop (mkF m 104 #[.val (.int p1), .val (.int p2), .val (.int p3), .val (.int p4), .val (.ref w_NATIVE), .val (.ref w_d), .val .null, .val (.ref b7), .val (.ref w_IDENTITY), .val (.ref w_IDENTITY)] [(.ref b7)])) _
    refine st13.trans ?_
    show Steps p.tables e below (T13.setTop (mkF m 107 #[.val (.int p1), .val (.int p2), .val (.int p3), .val (.int p4), .val (.ref w_NATIVE), .val (.ref w_d), .val .null, .val (.ref b7), .val (.ref w_IDENTITY), .val (.ref w_IDENTITY)] [(.ref w_NATIVE)])) _
    refine XS.aload X13.here hx rfl (hb hby at_107) rfl rfl ?_
    show Steps p.tables e below (T13.setTop (mkF m 109 #[.val (.int p1), .val (.int p2), .val (.int p3), .val (.int p4), .val (.ref w_NATIVE), .val (.ref w_d), .val .null, .val (.ref b7), .val (.ref w_IDENTITY), .val (.ref w_IDENTITY)] [(.ref w_NATIVE), (.ref w_NATIVE)])) _
    refine Jvm.RoadKit.acmp (g := (mkF m 109 #[.val (.int p1), .val (.int p2), .val (.int p3), .val (.int p4), .val (.ref w_NATIVE), .val (.ref w_d), .val .null, .val (.ref b7), .val (.ref w_IDENTITY), .val (.ref w_IDENTITY)] [(.ref w_NATIVE), (.ref w_NATIVE)])) X13 hx rfl rfl rfl (pc0 := 109) (pc' := 112) (same := true) rfl (hb hby at_109) rfl (decide_eq_true rfl) (by decide) (by decide) ?_
    show Steps p.tables e below (T13.setTop (mkF m 112 #[.val (.int p1), .val (.int p2), .val (.int p3), .val (.int p4), .val (.ref w_NATIVE), .val (.ref w_d), .val .null, .val (.ref b7), .val (.ref w_IDENTITY), .val (.ref w_IDENTITY)] [])) _
    refine XS.iconst X13.here hx rfl (hb hby at_112) ?_
    show Steps p.tables e below (T13.setTop (mkF m 113 #[.val (.int p1), .val (.int p2), .val (.int p3), .val (.int p4), .val (.ref w_NATIVE), .val (.ref w_d), .val .null, .val (.ref b7), .val (.ref w_IDENTITY), .val (.ref w_IDENTITY)] [(.int (1 : Int32))])) _
    refine XS.goto X13.here hx rfl (pc0 := 113) (pc' := 117) rfl (hb hby at_113) (by decide) (by decide) ?_
    show Steps p.tables e below (T13.setTop (mkF m 117 #[.val (.int p1), .val (.int p2), .val (.int p3), .val (.int p4), .val (.ref w_NATIVE), .val (.ref w_d), .val .null, .val (.ref b7), .val (.ref w_IDENTITY), .val (.ref w_IDENTITY)] [(.int (1 : Int32))])) _
    exact retN X13 hx (t := .boolean) Bd.returns (by simp) (hb hby at_117) hr
  · show QL (some (.int (1 : Int32))) n0 _ T13.heap _
    rw [eq13]
    exact ⟨rfl, N13⟩

theorem rm0 (l : Launch) (Z : State) (a0 : Array Value) (hw : ∀ d ∈ tables_1, d.before a0 Z = true) (ws : List Jvm.Cond) (p1 : Int32) (p2 : Int32) (p3 : Int32) (p4 : Int32) (w_ASSIGNED : Addr) (w_SEQUENCE : Addr) (w_IDENTITY : Addr) (w_NATIVE : Addr) (w_H2 : Addr) (w_POSTGRESQL : Addr) (w_MARIADB : Addr) (w_COMPACT_STRINGS : Int32) (h0 : Heap) (n0 : Nat) (Z0 : n0 ≤ h0.size) (S_ASSIGNED : Sta Z h0 "com/example/hydrate/hydrate/mapping/IdGenerator$Kind" "ASSIGNED" "Lcom/example/hydrate/hydrate/mapping/IdGenerator$Kind;" (.ref w_ASSIGNED)) (S_SEQUENCE : Sta Z h0 "com/example/hydrate/hydrate/mapping/IdGenerator$Kind" "SEQUENCE" "Lcom/example/hydrate/hydrate/mapping/IdGenerator$Kind;" (.ref w_SEQUENCE)) (S_IDENTITY : Sta Z h0 "com/example/hydrate/hydrate/mapping/IdGenerator$Kind" "IDENTITY" "Lcom/example/hydrate/hydrate/mapping/IdGenerator$Kind;" (.ref w_IDENTITY)) (S_NATIVE : Sta Z h0 "com/example/hydrate/hydrate/mapping/IdGenerator$Kind" "NATIVE" "Lcom/example/hydrate/hydrate/mapping/IdGenerator$Kind;" (.ref w_NATIVE)) (S_H2 : Sta Z h0 "com/example/hydrate/hydrate/dialect/Dialect" "H2" "Lcom/example/hydrate/hydrate/dialect/Dialect;" (.ref w_H2)) (S_POSTGRESQL : Sta Z h0 "com/example/hydrate/hydrate/dialect/Dialect" "POSTGRESQL" "Lcom/example/hydrate/hydrate/dialect/Dialect;" (.ref w_POSTGRESQL)) (S_MARIADB : Sta Z h0 "com/example/hydrate/hydrate/dialect/Dialect" "MARIADB" "Lcom/example/hydrate/hydrate/dialect/Dialect;" (.ref w_MARIADB)) (hcs : ¬ (w_COMPACT_STRINGS = (0 : Int32))) (S_COMPACT_STRINGS : Sta Z h0 "java/lang/String" "COMPACT_STRINGS" "Z" (.int w_COMPACT_STRINGS)) (E_w_H2 : Exa Z h0 w_H2 "com/example/hydrate/hydrate/dialect/Dialect$1") (E_w_POSTGRESQL : Exa Z h0 w_POSTGRESQL "com/example/hydrate/hydrate/dialect/Dialect$2") (E_w_MARIADB : Exa Z h0 w_MARIADB "com/example/hydrate/hydrate/dialect/Dialect$3") (f_H2 : Fld Z h0 w_H2 "com/example/hydrate/hydrate/dialect/Dialect" "nativeSequences" "Z" (.int (1 : Int32))) (f_POSTGRESQL : Fld Z h0 w_POSTGRESQL "com/example/hydrate/hydrate/dialect/Dialect" "nativeSequences" "Z" (.int (1 : Int32))) (f_MARIADB : Fld Z h0 w_MARIADB "com/example/hydrate/hydrate/dialect/Dialect" "nativeSequences" "Z" (.int (0 : Int32))) (ne_ASSIGNED_NATIVE : ¬ (w_ASSIGNED = w_NATIVE)) (ne_SEQUENCE_NATIVE : ¬ (w_SEQUENCE = w_NATIVE)) (ne_IDENTITY_NATIVE : ¬ (w_IDENTITY = w_NATIVE)) :
    MetFree l x (head1 (Jvm.Cond.code x code maxLocals ret :: ws) room_1) (fun a U => a = #[(.int p1), (.int p2), (.int p3), (.int p4)] ∧ Z.Warmed39 U.vm ∧ U.heap = h0) (fun _ _ _ _ _ => True) (fun _ U o U' => ∃ v L, o = .returned v ∧ QL (some (.int (1 : Int32))) n0 v U'.heap L ∧ FrameEnd U o U' L room_1.cells room_1.slots) := by
  obtain ⟨w_d, hd⟩ : ∃ r, Dl (HMod.hMod (p2 &&& (2147483647 : Int32)) (3 : Int32)) r w_H2 w_POSTGRESQL w_MARIADB := by
    by_cases h0' : (HMod.hMod (p2 &&& (2147483647 : Int32)) (3 : Int32)) = (0 : Int32)
    · exact ⟨_, Or.inl ⟨h0', rfl⟩⟩
    by_cases h1' : (HMod.hMod (p2 &&& (2147483647 : Int32)) (3 : Int32)) = (1 : Int32)
    · exact ⟨_, Or.inr (Or.inl ⟨h0', h1', rfl⟩)⟩
    exact ⟨_, Or.inr (Or.inr ⟨h0', h1', rfl⟩)⟩
  by_cases hs : (((p4.toUInt32 >>> ((8 : Int32) &&& 31).toUInt32).toInt32) &&& (1 : Int32)) = (0 : Int32)
  · by_cases k0 : (p1 &&& (3 : Int32)) = (0 : Int32)
    · exact rm0_tA l Z a0 hw ws p1 p2 p3 p4 w_ASSIGNED w_SEQUENCE w_IDENTITY w_NATIVE w_H2 w_POSTGRESQL w_MARIADB w_ASSIGNED w_d w_COMPACT_STRINGS h0 n0 Z0 S_ASSIGNED S_SEQUENCE S_IDENTITY S_NATIVE S_H2 S_POSTGRESQL S_MARIADB (Or.inl ⟨k0, rfl⟩) hd hcs S_COMPACT_STRINGS ne_ASSIGNED_NATIVE hs ne_ASSIGNED_NATIVE
    by_cases k1 : (p1 &&& (3 : Int32)) = (1 : Int32)
    · exact rm0_tA l Z a0 hw ws p1 p2 p3 p4 w_ASSIGNED w_SEQUENCE w_IDENTITY w_NATIVE w_H2 w_POSTGRESQL w_MARIADB w_SEQUENCE w_d w_COMPACT_STRINGS h0 n0 Z0 S_ASSIGNED S_SEQUENCE S_IDENTITY S_NATIVE S_H2 S_POSTGRESQL S_MARIADB (Or.inr (Or.inl ⟨k0, k1, rfl⟩)) hd hcs S_COMPACT_STRINGS ne_SEQUENCE_NATIVE hs ne_SEQUENCE_NATIVE
    by_cases k2 : (p1 &&& (3 : Int32)) = (2 : Int32)
    · exact rm0_tA l Z a0 hw ws p1 p2 p3 p4 w_ASSIGNED w_SEQUENCE w_IDENTITY w_NATIVE w_H2 w_POSTGRESQL w_MARIADB w_IDENTITY w_d w_COMPACT_STRINGS h0 n0 Z0 S_ASSIGNED S_SEQUENCE S_IDENTITY S_NATIVE S_H2 S_POSTGRESQL S_MARIADB (Or.inr (Or.inr (Or.inl ⟨k0, k1, k2, rfl⟩))) hd hcs S_COMPACT_STRINGS ne_IDENTITY_NATIVE hs ne_IDENTITY_NATIVE
    rcases hd with ⟨h1, h3⟩ | ⟨h1, h2, h3⟩ | ⟨h1, h2, h3⟩
    · exact rm0_t1 l Z a0 hw ws p1 p2 p3 p4 w_ASSIGNED w_SEQUENCE w_IDENTITY w_NATIVE w_H2 w_POSTGRESQL w_MARIADB w_H2 w_COMPACT_STRINGS h0 n0 Z0 S_ASSIGNED S_SEQUENCE S_IDENTITY S_NATIVE S_H2 S_POSTGRESQL S_MARIADB E_w_H2 (Or.inr (Or.inr (Or.inr ⟨k0, k1, k2, rfl⟩))) (Or.inl ⟨h1, rfl⟩) hcs S_COMPACT_STRINGS f_H2 hs (by decide)
    · exact rm0_t2 l Z a0 hw ws p1 p2 p3 p4 w_ASSIGNED w_SEQUENCE w_IDENTITY w_NATIVE w_H2 w_POSTGRESQL w_MARIADB w_POSTGRESQL w_COMPACT_STRINGS h0 n0 Z0 S_ASSIGNED S_SEQUENCE S_IDENTITY S_NATIVE S_H2 S_POSTGRESQL S_MARIADB E_w_POSTGRESQL (Or.inr (Or.inr (Or.inr ⟨k0, k1, k2, rfl⟩))) (Or.inr (Or.inl ⟨h1, h2, rfl⟩)) hcs S_COMPACT_STRINGS f_POSTGRESQL hs (by decide)
    · exact rm0_t3 l Z a0 hw ws p1 p2 p3 p4 w_ASSIGNED w_SEQUENCE w_IDENTITY w_NATIVE w_H2 w_POSTGRESQL w_MARIADB w_MARIADB w_COMPACT_STRINGS h0 n0 Z0 S_ASSIGNED S_SEQUENCE S_IDENTITY S_NATIVE S_H2 S_POSTGRESQL S_MARIADB E_w_MARIADB (Or.inr (Or.inr (Or.inr ⟨k0, k1, k2, rfl⟩))) (Or.inr (Or.inr ⟨h1, h2, rfl⟩)) hcs S_COMPACT_STRINGS f_MARIADB hs
  · by_cases k0 : (p1 &&& (3 : Int32)) = (0 : Int32)
    · exact rm0_fA l Z a0 hw ws p1 p2 p3 p4 w_ASSIGNED w_SEQUENCE w_IDENTITY w_NATIVE w_H2 w_POSTGRESQL w_MARIADB w_ASSIGNED w_d w_COMPACT_STRINGS h0 n0 Z0 S_ASSIGNED S_SEQUENCE S_IDENTITY S_NATIVE S_H2 S_POSTGRESQL S_MARIADB (Or.inl ⟨k0, rfl⟩) hd hcs S_COMPACT_STRINGS ne_ASSIGNED_NATIVE hs ne_ASSIGNED_NATIVE
    by_cases k1 : (p1 &&& (3 : Int32)) = (1 : Int32)
    · exact rm0_fA l Z a0 hw ws p1 p2 p3 p4 w_ASSIGNED w_SEQUENCE w_IDENTITY w_NATIVE w_H2 w_POSTGRESQL w_MARIADB w_SEQUENCE w_d w_COMPACT_STRINGS h0 n0 Z0 S_ASSIGNED S_SEQUENCE S_IDENTITY S_NATIVE S_H2 S_POSTGRESQL S_MARIADB (Or.inr (Or.inl ⟨k0, k1, rfl⟩)) hd hcs S_COMPACT_STRINGS ne_SEQUENCE_NATIVE hs ne_SEQUENCE_NATIVE
    by_cases k2 : (p1 &&& (3 : Int32)) = (2 : Int32)
    · exact rm0_fA l Z a0 hw ws p1 p2 p3 p4 w_ASSIGNED w_SEQUENCE w_IDENTITY w_NATIVE w_H2 w_POSTGRESQL w_MARIADB w_IDENTITY w_d w_COMPACT_STRINGS h0 n0 Z0 S_ASSIGNED S_SEQUENCE S_IDENTITY S_NATIVE S_H2 S_POSTGRESQL S_MARIADB (Or.inr (Or.inr (Or.inl ⟨k0, k1, k2, rfl⟩))) hd hcs S_COMPACT_STRINGS ne_IDENTITY_NATIVE hs ne_IDENTITY_NATIVE
    rcases hd with ⟨h1, h3⟩ | ⟨h1, h2, h3⟩ | ⟨h1, h2, h3⟩
    · exact rm0_f1 l Z a0 hw ws p1 p2 p3 p4 w_ASSIGNED w_SEQUENCE w_IDENTITY w_NATIVE w_H2 w_POSTGRESQL w_MARIADB w_H2 w_COMPACT_STRINGS h0 n0 Z0 S_ASSIGNED S_SEQUENCE S_IDENTITY S_NATIVE S_H2 S_POSTGRESQL S_MARIADB E_w_H2 (Or.inr (Or.inr (Or.inr ⟨k0, k1, k2, rfl⟩))) (Or.inl ⟨h1, rfl⟩) hcs S_COMPACT_STRINGS f_H2 hs (by decide)
    · exact rm0_f2 l Z a0 hw ws p1 p2 p3 p4 w_ASSIGNED w_SEQUENCE w_IDENTITY w_NATIVE w_H2 w_POSTGRESQL w_MARIADB w_POSTGRESQL w_COMPACT_STRINGS h0 n0 Z0 S_ASSIGNED S_SEQUENCE S_IDENTITY S_NATIVE S_H2 S_POSTGRESQL S_MARIADB E_w_POSTGRESQL (Or.inr (Or.inr (Or.inr ⟨k0, k1, k2, rfl⟩))) (Or.inr (Or.inl ⟨h1, h2, rfl⟩)) hcs S_COMPACT_STRINGS f_POSTGRESQL hs (by decide)
    · exact rm0_f3 l Z a0 hw ws p1 p2 p3 p4 w_ASSIGNED w_SEQUENCE w_IDENTITY w_NATIVE w_H2 w_POSTGRESQL w_MARIADB w_MARIADB w_COMPACT_STRINGS h0 n0 Z0 S_ASSIGNED S_SEQUENCE S_IDENTITY S_NATIVE S_H2 S_POSTGRESQL S_MARIADB E_w_MARIADB (Or.inr (Or.inr (Or.inr ⟨k0, k1, k2, rfl⟩))) (Or.inr (Or.inr ⟨h1, h2, rfl⟩)) hcs S_COMPACT_STRINGS f_MARIADB hs

set_option maxRecDepth 65536 in
set_option maxHeartbeats 40000000 in
theorem comes_1 {Post : Tables → Env → Array Value → State → Outcome → State → Prop} (hpost : ∀ tb e args s v u, (limb_1_1.after args s (.returned v) u = true ∧ limb_1_2.after args s (.returned v) u = true ∧ True) → FrameEnd s (.returned v) u (Jvm.fieldLocs frame_1_writes args s ++ Jvm.arrayLocs frame_1_arrays args s ++ Jvm.staticLocs frame_1_statics s) 16 128 → Post tb e args s (.returned v) u) :
    ArmFor flags0 classFile x code maxLocals ret World_1 tables_1 room_1 Calls_1 rest_1 Pre_1 Post := by
  intro l hfl _ _ p e ha hc hk s m args below hf hA hF happ hP
  obtain ⟨hcalls, hrest, hpre⟩ := hP
  obtain ⟨-, -, -, hnamed, -, -, -, hat⟩ := (Spec.applies_iff hf).mp happ
  obtain ⟨hg, hn⟩ := and_e (Cond.before_iff.mp (show (Jvm.Cond.and given_1 narrow_1).before args s = true from hpre))
  obtain ⟨g12, g13⟩ := and_e hg
  obtain ⟨g14, g15⟩ := and_e g13
  obtain ⟨g16, g17⟩ := and_e g15
  obtain ⟨g18, g19⟩ := and_e g17
  obtain ⟨w0, w1, w2, w3, rfl⟩ : ∃ w0 w1 w2 w3 : Value, args = #[w0, w1, w2, w3] := by
    have hs : args.size = 4 := by simpa [Cond.value, given_1] using g12
    obtain ⟨L⟩ := args
    match L, hs with
    | [w0, w1, w2, w3], _ => exact ⟨w0, w1, w2, w3, rfl⟩
  have hw := fun d (hd : d ∈ tables_1) => atoms_spec (ws := Jvm.Cond.code x code maxLocals ret :: tables_1) hat d (List.mem_cons_of_mem _ hd)
  have hfit : Fit s := fun {y c} hc i hi => by
    obtain ⟨ha, rfl⟩ := Array.getElem?_eq_some_iff.mp hc
    have q := List.all_eq_true.mp ((Array.all_eq_true_iff_forall_mem.mp hF) _ (Array.getElem_mem ha)) i (List.mem_range.mpr hi)
    simpa [Array.getElem?_eq_getElem hi] using q
  -- the named sets: hsets indexes jdkStatics_1 (Statement.lean): (hsets _ (List.mem_of_getElem? (i := n) rfl)) is its n-th word, before the call
  obtain ⟨hsets, hown0⟩ := atoms_of _ (rest_1_c_eq ▸ (show rest_1_c.before _ s = true from hrest))
  have hr0 := Cond.before_iff.mp hown0
  obtain ⟨i0, ei0⟩ := is_v g14
  obtain rfl : w0 = (.int i0) := Option.some.inj ei0
  obtain ⟨i1, ei1⟩ := is_v g16
  obtain rfl : w1 = (.int i1) := Option.some.inj ei1
  obtain ⟨i2, ei2⟩ := is_v g18
  obtain rfl : w2 = (.int i2) := Option.some.inj ei2
  obtain ⟨i3, ei3⟩ := is_v g19
  obtain rfl : w3 = (.int i3) := Option.some.inj ei3
  obtain ⟨n0, hn⟩ := and_e hn
  obtain ⟨n1, hn⟩ := and_e hn
  obtain ⟨n2, hn⟩ := and_e hn
  obtain ⟨n3, hn⟩ := and_e hn
  obtain ⟨n4, hn⟩ := and_e hn
  obtain ⟨n5, hn⟩ := and_e hn
  obtain ⟨n6, hn⟩ := and_e hn
  obtain ⟨n7, hn⟩ := and_e hn
  obtain ⟨n8, hn⟩ := and_e hn
  obtain ⟨n9, hn⟩ := and_e hn
  obtain ⟨n10, hn⟩ := and_e hn
  obtain ⟨n11, hn⟩ := and_e hn
  obtain ⟨n12, n13⟩ := and_e hn
  obtain ⟨w_ASSIGNED, v_ASSIGNED, S_ASSIGNED, E_w_ASSIGNED⟩ := own_sta (hw _ (List.mem_of_getElem? (i := 5) rfl)) (hw _ (List.mem_of_getElem? (i := 6) rfl)) n0
  obtain ⟨w_H2, v_H2, S_H2, E_w_H2⟩ := own_sta (hw _ (List.mem_of_getElem? (i := 12) rfl)) (hw _ (List.mem_of_getElem? (i := 13) rfl)) n1
  obtain ⟨w_NATIVE, v_NATIVE, S_NATIVE, E_w_NATIVE⟩ := own_sta (hw _ (List.mem_of_getElem? (i := 5) rfl)) (hw _ (List.mem_of_getElem? (i := 40) rfl)) n2
  obtain ⟨w_POSTGRESQL, v_POSTGRESQL, S_POSTGRESQL, E_w_POSTGRESQL⟩ := own_sta (hw _ (List.mem_of_getElem? (i := 12) rfl)) (hw _ (List.mem_of_getElem? (i := 48) rfl)) n5
  obtain ⟨w_SEQUENCE, v_SEQUENCE, S_SEQUENCE, E_w_SEQUENCE⟩ := own_sta (hw _ (List.mem_of_getElem? (i := 5) rfl)) (hw _ (List.mem_of_getElem? (i := 57) rfl)) n7
  obtain ⟨w_IDENTITY, v_IDENTITY, S_IDENTITY, E_w_IDENTITY⟩ := own_sta (hw _ (List.mem_of_getElem? (i := 5) rfl)) (hw _ (List.mem_of_getElem? (i := 61) rfl)) n8
  obtain ⟨w_MARIADB, v_MARIADB, S_MARIADB, E_w_MARIADB⟩ := own_sta (hw _ (List.mem_of_getElem? (i := 12) rfl)) (hw _ (List.mem_of_getElem? (i := 87) rfl)) n10
  have f_ASSIGNED := own_fld v_ASSIGNED n3
  have f_NATIVE := own_fld v_NATIVE n4
  have f_POSTGRESQL := own_fld v_POSTGRESQL n6
  have f_IDENTITY := own_fld v_IDENTITY n9
  have f_SEQUENCE := own_fld v_SEQUENCE n11
  have f_MARIADB := own_fld v_MARIADB n12
  have f_H2 := own_fld v_H2 n13
  have ne_ASSIGNED_NATIVE : ¬ (w_ASSIGNED = w_NATIVE) := Fld.ne f_ASSIGNED f_NATIVE (by decide)
  have ne_SEQUENCE_NATIVE : ¬ (w_SEQUENCE = w_NATIVE) := Fld.ne f_SEQUENCE f_NATIVE (by decide)
  have ne_IDENTITY_NATIVE : ¬ (w_IDENTITY = w_NATIVE) := Fld.ne f_IDENTITY f_NATIVE (by decide)
  have hr1 := Cond.before_iff.mp (show rest_1_c.before _ s = true from hrest)
  obtain ⟨r1, hr1⟩ := and_e hr1
  obtain ⟨r2, hr1⟩ := and_e hr1
  obtain ⟨r3, -⟩ := and_e hr1
  obtain ⟨cs, vcs⟩ := is_v r2
  have S_COMPACT_STRINGS := Sta.start vcs (Or.inl (Cond.before_iff.mpr r1))
  have hcs : ¬ (cs = (0 : Int32)) := fun hq => by
    have r4 := not_v r3
    subst hq
    simp [Cond.value, vcs, Term.int_eval] at r4
  obtain ⟨n, o, h1, h2, h3, _, L, rfl, ⟨rfl, N⟩, hq⟩ := rm0 l s _ hw tables_1 i0 i1 i2 i3 w_ASSIGNED w_SEQUENCE w_IDENTITY w_NATIVE w_H2 w_POSTGRESQL w_MARIADB cs s.heap s.heap.size (Nat.le_refl _) S_ASSIGNED S_SEQUENCE S_IDENTITY S_NATIVE S_H2 S_POSTGRESQL S_MARIADB hcs S_COMPACT_STRINGS E_w_H2 E_w_POSTGRESQL E_w_MARIADB f_H2 f_POSTGRESQL f_MARIADB ne_ASSIGNED_NATIVE ne_SEQUENCE_NATIVE ne_IDENTITY_NATIVE p e ha hc hk s m _ below hf ((Spec.applies_iff_loose hf).mp happ).1 ⟨rfl, State.Warmed39.refl s, rfl⟩ trivial
  refine ⟨n, _, h1, h2, h3, hpost _ _ _ _ _ _ ⟨Cond.after_iff.mpr rfl, Cond.after_iff.mpr (eq_i res_at (Term.int_eval (1)) rfl), trivial⟩ ⟨hq.1, hq.2.1, (hq.2.2.sift fun y hy => Or.inr (N y hy)).mono (by decide) (by decide)⟩⟩
theorem main_1_1 : Claimed_1_1 := comes_1 fun _ _ _ _ _ _ h hF => ⟨h.1, hF⟩
theorem main_1_2 : Claimed_1_2 := comes_1 fun _ _ _ _ _ _ h hF => ⟨h.2.1, hF⟩

end Jvm.Pilot.@@N@@
namespace Jvm.Pilot.@@N@@
open Jvm Jvm.ClassFile Sem Op Lib Jvm.Free Jvm.Stand Jvm.Pilot.@@N@@.Jvm.D
/-! MADE BY PROGRAM (witnessworld.py) out of the Statement's table words and the real class files: 22 classes; the members and pool entries that the words name. The judged class is class 1, her method 3. -/
namespace start1
open Jvm.ClassFile
def u (s : String) : CpInfo := .utf8 (stringToUtf16 s)
/-- a pool by its gaps: so many unusable entries, then the entry; so many at the end -/
def gap : Nat → List CpInfo → List CpInfo
  | 0, r => r
  | n + 1, r => .unusable :: gap n r
def poolList (es : List (Nat × CpInfo)) (last : Nat) : List CpInfo := es.foldr (fun e r => gap e.1 (e.2 :: r)) (gap last [])
def pool (es : List (Nat × CpInfo)) (last : Nat) : Array CpInfo := ⟨poolList es last⟩
def fileOf (pool : Array CpInfo) (this : Nat) (attrs : Array Attribute := #[]) (ms : Array MethodInfo := #[]) (fl : Nat := 33) (sup : Nat := 0) (ifs : Array Nat := #[]) (fds : Array FieldInfo := #[]) : ClassFile where
  minorVersion := 0
  majorVersion := 65
  constantPool := pool
  accessFlags := fl
  thisClass := this
  superClass := sup
  interfaces := ifs
  fields := fds
  methods := ms
  attributes := attrs
def plain (name : String) (sup : Option ClassId) : Class where
  name := name
  kind := .ordinary
  loader := none
  accessFlags := 33
  super := sup
  interfaces := #[]
  cf := none
  fields := #[]
  methods := #[]
  instanceTypes := #[]
  staticTypes := #[]
  resolved := #[]
  callSites := []
  init := .initialized
  statics := none
  mirror := none

def pool0 : Array CpInfo := pool [(5, u "<init>"), (0, u "()V"), (1, .class_ 10), (1, u "java/lang/Object")] 113

def k0c0 : Code := { maxStack := 0, maxLocals := 1, code := object_method_1_code, exceptionTable := #[], attributes := #[] }
def k0m0 : Method := { name := "<init>", desc := "()V", sig := { parameters := [], returnType := none }, accessFlags := 1, code := some k0c0 }
/-- java/lang/Object -/
def k0 : Class := { plain "java/lang/Object" none with
  accessFlags := 33
  interfaces := #[]
  cf := some (fileOf pool0 8 #[] #[{ accessFlags := 1, nameIndex := 5, descriptorIndex := 6, attributes := #[] }] 33 0 #[] #[])
  fields := #[]
  methods := #[k0m0]
  instanceTypes := #[]
  staticTypes := #[]
  resolved := Array.replicate 124 none
  statics := none }

def pool1 : Array CpInfo := pool [(2, .class_ 4), (1, u "java/lang/Object"), (0, u "<init>"), (0, u "()V"), (0, .fieldref 8 9), (0, .class_ 10), (0, .nameAndType 11 12), (0, u "com/example/hydrate/hydrate/mapping/IdGenerator$Kind"), (0, u "ASSIGNED"), (0, u "Lcom/example/hydrate/hydrate/mapping/IdGenerator$Kind;"), (0, .fieldref 8 14), (0, .nameAndType 15 12), (0, u "SEQUENCE"), (0, .fieldref 8 17), (0, .nameAndType 18 12), (0, u "IDENTITY"), (0, .fieldref 8 20), (0, .nameAndType 21 12), (0, u "NATIVE"), (0, .integer 2147483647), (0, .fieldref 24 25), (0, .class_ 26), (0, .nameAndType 27 28), (0, u "com/example/hydrate/hydrate/dialect/Dialect"), (0, u "H2"), (0, u "Lcom/example/hydrate/hydrate/dialect/Dialect;"), (0, .fieldref 24 30), (0, .nameAndType 31 28), (0, u "POSTGRESQL"), (0, .fieldref 24 33), (0, .nameAndType 34 28), (0, u "MARIADB"), (0, .methodref 36 37), (0, .class_ 38), (0, .nameAndType 39 40), (0, u "com/example/hydrate/hydrate/mapping/IdGeneratorOnPinLaw"), (0, u "kindOf"), (0, u "(I)Lcom/example/hydrate/hydrate/mapping/IdGenerator$Kind;"), (0, .methodref 36 42), (0, .nameAndType 43 44), (0, u "dialectOf"), (0, u "(I)Lcom/example/hydrate/hydrate/dialect/Dialect;"), (0, .methodref 46 47), (0, .class_ 48), (0, .nameAndType 49 50), (0, u "java/lang/String"), (0, u "valueOf"), (0, u "(C)Ljava/lang/String;"), (0, .class_ 52), (0, u "com/example/hydrate/hydrate/mapping/IdGenerator"), (0, .methodref 51 54), (0, .nameAndType 5 55), (0, u "(Lcom/example/hydrate/hydrate/mapping/IdGenerator$Kind;Ljava/lang/String;I)V"), (0, .methodref 51 57), (0, .nameAndType 58 59), (0, u "on"), (0, u "(Lcom/example/hydrate/hydrate/dialect/Dialect;)Lcom/example/hydrate/hydrate/mapping/IdGenerator$Kind;"), (0, .methodref 24 61), (0, .nameAndType 62 63), (0, u "nativeSequences"), (0, u "()Z"), (0, .methodref 51 65), (0, .nameAndType 66 67), (0, u "kind"), (0, u "()Lcom/example/hydrate/hydrate/mapping/IdGenerator$Kind;"), (3, u "law"), (0, u "(IIII)Z")] 4

def k1m0 : Method := { name := "<init>", desc := "()V", sig := { parameters := [], returnType := none }, accessFlags := 1, code := none }
def k1c1 : Code := { maxStack := 2, maxLocals := 2, code := method_2_code, exceptionTable := #[], attributes := #[] }
def k1m1 : Method := { name := "kindOf", desc := "(I)Lcom/example/hydrate/hydrate/mapping/IdGenerator$Kind;", sig := { parameters := [.int], returnType := some (.object "com/example/hydrate/hydrate/mapping/IdGenerator$Kind") }, accessFlags := 10, code := some k1c1 }
def k1c2 : Code := { maxStack := 2, maxLocals := 2, code := method_3_code, exceptionTable := #[], attributes := #[] }
def k1m2 : Method := { name := "dialectOf", desc := "(I)Lcom/example/hydrate/hydrate/dialect/Dialect;", sig := { parameters := [.int], returnType := some (.object "com/example/hydrate/hydrate/dialect/Dialect") }, accessFlags := 10, code := some k1c2 }
def k1c3 : Code := { maxStack := 5, maxLocals := 10, code := code, exceptionTable := #[], attributes := #[] }
def k1m3 : Method := { name := "law", desc := "(IIII)Z", sig := { parameters := [.int, .int, .int, .int], returnType := some .boolean }, accessFlags := 9, code := some k1c3 }
/-- com/example/hydrate/hydrate/mapping/IdGeneratorOnPinLaw -/
def k1 : Class := { plain "com/example/hydrate/hydrate/mapping/IdGeneratorOnPinLaw" (some 0) with
  accessFlags := 49
  interfaces := #[]
  cf := some (fileOf pool1 36 #[] #[{ accessFlags := 1, nameIndex := 5, descriptorIndex := 6, attributes := #[] }, { accessFlags := 10, nameIndex := 39, descriptorIndex := 40, attributes := #[] }, { accessFlags := 10, nameIndex := 43, descriptorIndex := 44, attributes := #[] }, { accessFlags := 9, nameIndex := 71, descriptorIndex := 72, attributes := #[] }] 49 2 #[] #[])
  fields := #[]
  methods := #[k1m0, k1m1, k1m2, k1m3]
  instanceTypes := #[]
  staticTypes := #[]
  resolved := Array.replicate 77 none
  statics := none }

def pool2 : Array CpInfo := pool [(1, .class_ 2), (0, u "java/lang/constant/Constable"), (0, .class_ 4), (0, u "java/lang/Object")] 6

/-- java/lang/constant/Constable -/
def k2 : Class := { plain "java/lang/constant/Constable" (some 0) with
  accessFlags := 1537
  interfaces := #[]
  cf := some (fileOf pool2 1 #[] #[] 1537 3 #[] #[])
  fields := #[]
  methods := #[]
  instanceTypes := #[]
  staticTypes := #[]
  resolved := Array.replicate 11 none
  statics := none }

def pool3 : Array CpInfo := pool [(1, .class_ 2), (0, u "java/lang/Comparable"), (0, .class_ 4), (0, u "java/lang/Object")] 7

/-- java/lang/Comparable -/
def k3 : Class := { plain "java/lang/Comparable" (some 0) with
  accessFlags := 1537
  interfaces := #[]
  cf := some (fileOf pool3 1 #[] #[] 1537 3 #[] #[])
  fields := #[]
  methods := #[]
  instanceTypes := #[]
  staticTypes := #[]
  resolved := Array.replicate 12 none
  statics := none }

def pool4 : Array CpInfo := pool [(1, .class_ 2), (0, u "java/io/Serializable"), (0, .class_ 4), (0, u "java/lang/Object")] 2

/-- java/io/Serializable -/
def k4 : Class := { plain "java/io/Serializable" (some 0) with
  accessFlags := 1537
  interfaces := #[]
  cf := some (fileOf pool4 1 #[] #[] 1537 3 #[] #[])
  fields := #[]
  methods := #[]
  instanceTypes := #[]
  staticTypes := #[]
  resolved := Array.replicate 7 none
  statics := none }

def pool5 : Array CpInfo := pool [(2, .class_ 4), (1, u "java/lang/Enum"), (0, u "name"), (0, u "Ljava/lang/String;"), (2, u "ordinal"), (0, u "I"), (1, .class_ 14), (1, u "java/lang/Object"), (4, u "hash"), (86, .class_ 108), (1, u "java/lang/Enum$EnumDesc"), (2, .class_ 112), (0, u "java/lang/constant/Constable"), (0, .class_ 114), (0, u "java/lang/Comparable"), (0, .class_ 116), (0, u "java/io/Serializable")] 87

/-- java/lang/Enum -/
def k5 : Class := { plain "java/lang/Enum" (some 0) with
  accessFlags := 1057
  interfaces := #[2, 3, 4]
  cf := some (fileOf pool5 2 #[.nestMembers #[106]] #[] 1057 12 #[111, 113, 115] #[{ accessFlags := 18, nameIndex := 5, descriptorIndex := 6, attributes := #[] }, { accessFlags := 18, nameIndex := 9, descriptorIndex := 10, attributes := #[] }, { accessFlags := 2, nameIndex := 19, descriptorIndex := 10, attributes := #[] }])
  fields := #[{ name := "name", type := (.object "java/lang/String"), accessFlags := 18, slot := 0, constantValue := 0 }, { name := "ordinal", type := .int, accessFlags := 18, slot := 1, constantValue := 0 }, { name := "hash", type := .int, accessFlags := 2, slot := 2, constantValue := 0 }]
  methods := #[]
  instanceTypes := #[(.object "java/lang/String"), .int, .int]
  staticTypes := #[]
  resolved := Array.replicate 204 none
  statics := none }

def pool6 : Array CpInfo := pool [(1, .class_ 2), (0, u "com/example/hydrate/hydrate/mapping/IdGenerator$Kind"), (2, u "ASSIGNED"), (0, u "Lcom/example/hydrate/hydrate/mapping/IdGenerator$Kind;"), (2, u "SEQUENCE"), (2, u "IDENTITY"), (2, u "NATIVE"), (2, u "$VALUES"), (0, u "[Lcom/example/hydrate/hydrate/mapping/IdGenerator$Kind;"), (6, .class_ 28), (1, u "java/lang/Enum"), (8, u "generatorName"), (0, u "Ljava/lang/String;"), (70, .class_ 110), (0, u "com/example/hydrate/hydrate/mapping/IdGenerator")] 21

/-- com/example/hydrate/hydrate/mapping/IdGenerator$Kind -/
def k6 : Class := { plain "com/example/hydrate/hydrate/mapping/IdGenerator$Kind" (some 5) with
  accessFlags := 16433
  interfaces := #[]
  cf := some (fileOf pool6 1 #[.nestHost 109] #[] 16433 26 #[] #[{ accessFlags := 16409, nameIndex := 5, descriptorIndex := 6, attributes := #[] }, { accessFlags := 16409, nameIndex := 9, descriptorIndex := 6, attributes := #[] }, { accessFlags := 16409, nameIndex := 12, descriptorIndex := 6, attributes := #[] }, { accessFlags := 16409, nameIndex := 15, descriptorIndex := 6, attributes := #[] }, { accessFlags := 18, nameIndex := 37, descriptorIndex := 38, attributes := #[] }, { accessFlags := 4122, nameIndex := 18, descriptorIndex := 19, attributes := #[] }])
  fields := #[{ name := "ASSIGNED", type := (.object "com/example/hydrate/hydrate/mapping/IdGenerator$Kind"), accessFlags := 16409, slot := 0, constantValue := 0 }, { name := "SEQUENCE", type := (.object "com/example/hydrate/hydrate/mapping/IdGenerator$Kind"), accessFlags := 16409, slot := 1, constantValue := 0 }, { name := "IDENTITY", type := (.object "com/example/hydrate/hydrate/mapping/IdGenerator$Kind"), accessFlags := 16409, slot := 2, constantValue := 0 }, { name := "NATIVE", type := (.object "com/example/hydrate/hydrate/mapping/IdGenerator$Kind"), accessFlags := 16409, slot := 3, constantValue := 0 }, { name := "generatorName", type := (.object "java/lang/String"), accessFlags := 18, slot := 3, constantValue := 0 }, { name := "$VALUES", type := (.array (.object "com/example/hydrate/hydrate/mapping/IdGenerator$Kind")), accessFlags := 4122, slot := 4, constantValue := 0 }]
  methods := #[]
  instanceTypes := #[(.object "java/lang/String"), .int, .int, (.object "java/lang/String")]
  staticTypes := #[(.object "com/example/hydrate/hydrate/mapping/IdGenerator$Kind"), (.object "com/example/hydrate/hydrate/mapping/IdGenerator$Kind"), (.object "com/example/hydrate/hydrate/mapping/IdGenerator$Kind"), (.object "com/example/hydrate/hydrate/mapping/IdGenerator$Kind"), (.array (.object "com/example/hydrate/hydrate/mapping/IdGenerator$Kind"))]
  resolved := Array.replicate 132 none
  statics := some 0 }

def pool7 : Array CpInfo := pool [(1, .class_ 2), (0, u "com/example/hydrate/hydrate/dialect/Dialect"), (2, u "H2"), (0, u "Lcom/example/hydrate/hydrate/dialect/Dialect;"), (2, u "POSTGRESQL"), (2, u "MARIADB"), (2, u "$VALUES"), (0, u "[Lcom/example/hydrate/hydrate/dialect/Dialect;"), (6, .class_ 25), (1, u "java/lang/Enum"), (8, u "dialectName"), (0, u "Ljava/lang/String;"), (2, u "productName"), (0, .fieldref 1 40), (0, .nameAndType 41 42), (0, u "nativeSequences"), (0, u "Z"), (73, .class_ 117), (0, u "com/example/hydrate/hydrate/dialect/Dialect$1"), (6, .class_ 125), (0, u "com/example/hydrate/hydrate/dialect/Dialect$2"), (6, .class_ 133), (0, u "com/example/hydrate/hydrate/dialect/Dialect$3"), (9, u "PROPERTY"), (12, u "()Z")] 77

def k7c0 : Code := { maxStack := 1, maxLocals := 1, code := prog_13_method_7_code, exceptionTable := #[], attributes := #[] }
def k7m0 : Method := { name := "nativeSequences", desc := "()Z", sig := { parameters := [], returnType := some .boolean }, accessFlags := 1, code := some k7c0 }
/-- com/example/hydrate/hydrate/dialect/Dialect -/
def k7 : Class := { plain "com/example/hydrate/hydrate/dialect/Dialect" (some 5) with
  accessFlags := 16417
  interfaces := #[]
  cf := some (fileOf pool7 1 #[.nestMembers #[132, 124, 116]] #[{ accessFlags := 1, nameIndex := 41, descriptorIndex := 156, attributes := #[] }] 16417 23 #[] #[{ accessFlags := 16409, nameIndex := 5, descriptorIndex := 6, attributes := #[] }, { accessFlags := 16409, nameIndex := 9, descriptorIndex := 6, attributes := #[] }, { accessFlags := 16409, nameIndex := 12, descriptorIndex := 6, attributes := #[] }, { accessFlags := 25, nameIndex := 143, descriptorIndex := 35, attributes := #[] }, { accessFlags := 18, nameIndex := 34, descriptorIndex := 35, attributes := #[] }, { accessFlags := 18, nameIndex := 38, descriptorIndex := 35, attributes := #[] }, { accessFlags := 18, nameIndex := 41, descriptorIndex := 42, attributes := #[] }, { accessFlags := 4122, nameIndex := 15, descriptorIndex := 16, attributes := #[] }])
  fields := #[{ name := "H2", type := (.object "com/example/hydrate/hydrate/dialect/Dialect"), accessFlags := 16409, slot := 0, constantValue := 0 }, { name := "POSTGRESQL", type := (.object "com/example/hydrate/hydrate/dialect/Dialect"), accessFlags := 16409, slot := 1, constantValue := 0 }, { name := "MARIADB", type := (.object "com/example/hydrate/hydrate/dialect/Dialect"), accessFlags := 16409, slot := 2, constantValue := 0 }, { name := "PROPERTY", type := (.object "java/lang/String"), accessFlags := 25, slot := 3, constantValue := 0 }, { name := "dialectName", type := (.object "java/lang/String"), accessFlags := 18, slot := 3, constantValue := 0 }, { name := "productName", type := (.object "java/lang/String"), accessFlags := 18, slot := 4, constantValue := 0 }, { name := "nativeSequences", type := .boolean, accessFlags := 18, slot := 5, constantValue := 0 }, { name := "$VALUES", type := (.array (.object "com/example/hydrate/hydrate/dialect/Dialect")), accessFlags := 4122, slot := 4, constantValue := 0 }]
  methods := #[k7m0]
  instanceTypes := #[(.object "java/lang/String"), .int, .int, (.object "java/lang/String"), (.object "java/lang/String"), .boolean]
  staticTypes := #[(.object "com/example/hydrate/hydrate/dialect/Dialect"), (.object "com/example/hydrate/hydrate/dialect/Dialect"), (.object "com/example/hydrate/hydrate/dialect/Dialect"), (.object "java/lang/String"), (.array (.object "com/example/hydrate/hydrate/dialect/Dialect"))]
  resolved := Array.replicate 234 none
  statics := some 1 }

def pool8 : Array CpInfo := pool [(1, .methodref 2 3), (0, .class_ 4), (0, .nameAndType 5 6), (0, u "java/lang/Object"), (0, u "<init>"), (0, u "()V"), (0, .class_ 8), (0, u "java/lang/Record")] 13

def k8c0 : Code := { maxStack := 1, maxLocals := 1, code := jdk_30_method_1_code, exceptionTable := #[], attributes := #[] }
def k8m0 : Method := { name := "<init>", desc := "()V", sig := { parameters := [], returnType := none }, accessFlags := 4, code := some k8c0 }
/-- java/lang/Record -/
def k8 : Class := { plain "java/lang/Record" (some 0) with
  accessFlags := 1057
  interfaces := #[]
  cf := some (fileOf pool8 7 #[] #[{ accessFlags := 4, nameIndex := 5, descriptorIndex := 6, attributes := #[] }] 1057 2 #[] #[])
  fields := #[]
  methods := #[k8m0]
  instanceTypes := #[]
  staticTypes := #[]
  resolved := Array.replicate 22 none
  statics := none }

def pool9 : Array CpInfo := pool [(1, .methodref 2 3), (0, .class_ 4), (0, .nameAndType 5 6), (0, u "java/lang/Record"), (0, u "<init>"), (0, u "()V"), (0, .fieldref 8 9), (0, .class_ 10), (0, .nameAndType 11 12), (0, u "com/example/hydrate/hydrate/mapping/IdGenerator"), (0, u "kind"), (0, u "Lcom/example/hydrate/hydrate/mapping/IdGenerator$Kind;"), (0, .fieldref 8 14), (0, .nameAndType 15 16), (0, u "sequence"), (0, u "Ljava/lang/String;"), (0, .fieldref 8 18), (0, .nameAndType 19 20), (0, u "increment"), (0, u "I"), (0, .fieldref 22 23), (0, .class_ 24), (0, .nameAndType 25 12), (0, u "com/example/hydrate/hydrate/mapping/IdGenerator$Kind"), (0, u "NATIVE"), (0, .methodref 27 28), (0, .class_ 29), (0, .nameAndType 30 31), (0, u "com/example/hydrate/hydrate/dialect/Dialect"), (0, u "nativeSequences"), (0, u "()Z"), (0, .fieldref 22 33), (0, .nameAndType 34 12), (0, u "SEQUENCE"), (0, .fieldref 22 36), (0, .nameAndType 37 12), (0, u "IDENTITY"), (33, u "(Lcom/example/hydrate/hydrate/mapping/IdGenerator$Kind;Ljava/lang/String;I)V"), (3, u "on"), (0, u "(Lcom/example/hydrate/hydrate/dialect/Dialect;)Lcom/example/hydrate/hydrate/mapping/IdGenerator$Kind;"), (8, u "()Lcom/example/hydrate/hydrate/mapping/IdGenerator$Kind;")] 24

def k9c0 : Code := { maxStack := 2, maxLocals := 4, code := prog_57_method_1_code, exceptionTable := #[], attributes := #[] }
def k9m0 : Method := { name := "<init>", desc := "(Lcom/example/hydrate/hydrate/mapping/IdGenerator$Kind;Ljava/lang/String;I)V", sig := { parameters := [(.object "com/example/hydrate/hydrate/mapping/IdGenerator$Kind"), (.object "java/lang/String"), .int], returnType := none }, accessFlags := 1, code := some k9c0 }
def k9c1 : Code := { maxStack := 2, maxLocals := 3, code := prog_57_method_2_code, exceptionTable := #[], attributes := #[] }
def k9m1 : Method := { name := "on", desc := "(Lcom/example/hydrate/hydrate/dialect/Dialect;)Lcom/example/hydrate/hydrate/mapping/IdGenerator$Kind;", sig := { parameters := [(.object "com/example/hydrate/hydrate/dialect/Dialect")], returnType := some (.object "com/example/hydrate/hydrate/mapping/IdGenerator$Kind") }, accessFlags := 1, code := some k9c1 }
def k9c2 : Code := { maxStack := 1, maxLocals := 1, code := prog_57_method_8_code, exceptionTable := #[], attributes := #[] }
def k9m2 : Method := { name := "kind", desc := "()Lcom/example/hydrate/hydrate/mapping/IdGenerator$Kind;", sig := { parameters := [], returnType := some (.object "com/example/hydrate/hydrate/mapping/IdGenerator$Kind") }, accessFlags := 1, code := some k9c2 }
/-- com/example/hydrate/hydrate/mapping/IdGenerator -/
def k9 : Class := { plain "com/example/hydrate/hydrate/mapping/IdGenerator" (some 8) with
  accessFlags := 49
  interfaces := #[]
  cf := some (fileOf pool9 8 #[.nestMembers #[22]] #[{ accessFlags := 1, nameIndex := 5, descriptorIndex := 71, attributes := #[] }, { accessFlags := 1, nameIndex := 75, descriptorIndex := 76, attributes := #[] }, { accessFlags := 1, nameIndex := 11, descriptorIndex := 85, attributes := #[] }] 49 2 #[] #[{ accessFlags := 18, nameIndex := 11, descriptorIndex := 12, attributes := #[] }, { accessFlags := 18, nameIndex := 15, descriptorIndex := 16, attributes := #[] }, { accessFlags := 18, nameIndex := 19, descriptorIndex := 20, attributes := #[] }])
  fields := #[{ name := "kind", type := (.object "com/example/hydrate/hydrate/mapping/IdGenerator$Kind"), accessFlags := 18, slot := 0, constantValue := 0 }, { name := "sequence", type := (.object "java/lang/String"), accessFlags := 18, slot := 1, constantValue := 0 }, { name := "increment", type := .int, accessFlags := 18, slot := 2, constantValue := 0 }]
  methods := #[k9m0, k9m1, k9m2]
  instanceTypes := #[(.object "com/example/hydrate/hydrate/mapping/IdGenerator$Kind"), (.object "java/lang/String"), .int]
  staticTypes := #[]
  resolved := Array.replicate 110 none
  statics := none }

def pool10 : Array CpInfo := pool [(2, .class_ 4), (1, u "com/example/hydrate/hydrate/dialect/Dialect"), (31, .class_ 37), (0, u "com/example/hydrate/hydrate/dialect/Dialect$2")] 30

/-- com/example/hydrate/hydrate/dialect/Dialect$2 -/
def k10 : Class := { plain "com/example/hydrate/hydrate/dialect/Dialect$2" (some 7) with
  accessFlags := 16432
  interfaces := #[]
  cf := some (fileOf pool10 36 #[.nestHost 2] #[] 16432 2 #[] #[])
  fields := #[]
  methods := #[]
  instanceTypes := #[(.object "java/lang/String"), .int, .int, (.object "java/lang/String"), (.object "java/lang/String"), .boolean]
  staticTypes := #[]
  resolved := Array.replicate 68 none
  statics := none }

def pool11 : Array CpInfo := pool [(2, .class_ 4), (1, u "java/lang/CharSequence"), (42, .class_ 48), (0, u "java/lang/CharSequence$1CodePointIterator"), (10, .class_ 60), (0, u "java/lang/CharSequence$1CharIterator"), (5, .class_ 67), (0, u "java/lang/Object")] 63

/-- java/lang/CharSequence -/
def k11 : Class := { plain "java/lang/CharSequence" (some 0) with
  accessFlags := 1537
  interfaces := #[]
  cf := some (fileOf pool11 2 #[.nestMembers #[47, 59]] #[] 1537 66 #[] #[])
  fields := #[]
  methods := #[]
  instanceTypes := #[]
  staticTypes := #[]
  resolved := Array.replicate 131 none
  statics := none }

def pool12 : Array CpInfo := pool [(1, .class_ 2), (0, u "java/lang/constant/ConstantDesc"), (0, .class_ 4), (0, u "java/lang/Object")] 32

/-- java/lang/constant/ConstantDesc -/
def k12 : Class := { plain "java/lang/constant/ConstantDesc" (some 0) with
  accessFlags := 1537
  interfaces := #[]
  cf := some (fileOf pool12 1 #[] #[] 1537 3 #[] #[])
  fields := #[]
  methods := #[]
  instanceTypes := #[]
  staticTypes := #[]
  resolved := Array.replicate 37 none
  statics := none }

def pool13 : Array CpInfo := pool [(1, .methodref 2 3), (0, .class_ 4), (0, .nameAndType 5 6), (0, u "java/lang/Object"), (0, u "<init>"), (0, u "()V"), (2, .fieldref 10 11), (0, .class_ 12), (0, .nameAndType 13 14), (0, u "java/lang/String"), (0, u "value"), (0, u "[B"), (0, .fieldref 10 16), (0, .nameAndType 17 18), (0, u "coder"), (0, u "B"), (2, u "hash"), (0, u "I"), (2, u "hashIsZero"), (0, u "Z"), (11, .fieldref 10 39), (0, .nameAndType 40 26), (0, u "COMPACT_STRINGS"), (12, u "toBytes"), (53, .class_ 109), (1, u "java/lang/StringLatin1"), (99, .methodref 10 210), (0, .nameAndType 5 211), (0, u "([BB)V"), (157, u "(C)Z"), (205, .class_ 576), (0, u "java/lang/CharSequence"), (22, u "CASE_INSENSITIVE_ORDER"), (0, u "Ljava/util/Comparator;"), (181, u "valueOf"), (0, u "(C)Ljava/lang/String;"), (231, .methodref 107 1016), (0, .nameAndType 1017 369), (0, u "canEncode"), (0, .methodref 107 1019), (0, .nameAndType 53 1020), (0, u "(C)[B"), (80, u "serialPersistentFields"), (0, u "[Ljava/io/ObjectStreamField;"), (0, .class_ 1104), (0, u "java/lang/String$CaseInsensitiveComparator"), (1, .class_ 1107), (0, u "java/io/Serializable"), (0, .class_ 1109), (0, u "java/lang/Comparable"), (0, .class_ 1111), (0, u "java/lang/constant/Constable"), (0, .class_ 1113), (0, u "java/lang/constant/ConstantDesc"), (2, u "serialVersionUID"), (0, u "J"), (3, u "REPL"), (0, u "C"), (2, u "LATIN1"), (1, u "UTF16")] 323

def k13m0 : Method := { name := "<init>", desc := "()V", sig := { parameters := [], returnType := none }, accessFlags := 1, code := none }
def k13c1 : Code := { maxStack := 4, maxLocals := 1, code := jdk_42_method_139_code, exceptionTable := #[], attributes := #[] }
def k13m1 : Method := { name := "valueOf", desc := "(C)Ljava/lang/String;", sig := { parameters := [.char], returnType := some (.object "java/lang/String") }, accessFlags := 9, code := some k13c1 }
def k13c2 : Code := { maxStack := 2, maxLocals := 3, code := jdk_42_method_151_code, exceptionTable := #[], attributes := #[] }
def k13m2 : Method := { name := "<init>", desc := "([BB)V", sig := { parameters := [(.array .byte), .byte], returnType := none }, accessFlags := 0, code := some k13c2 }
/-- java/lang/String -/
def k13 : Class := { plain "java/lang/String" (some 0) with
  accessFlags := 49
  interfaces := #[4, 3, 11, 2, 12]
  cf := some (fileOf pool13 10 #[.nestMembers #[1103]] #[{ accessFlags := 1, nameIndex := 5, descriptorIndex := 6, attributes := #[] }, { accessFlags := 9, nameIndex := 782, descriptorIndex := 783, attributes := #[] }, { accessFlags := 0, nameIndex := 5, descriptorIndex := 211, attributes := #[] }] 49 2 #[1106, 1108, 575, 1110, 1112] #[{ accessFlags := 18, nameIndex := 13, descriptorIndex := 14, attributes := #[] }, { accessFlags := 18, nameIndex := 17, descriptorIndex := 18, attributes := #[] }, { accessFlags := 2, nameIndex := 21, descriptorIndex := 22, attributes := #[] }, { accessFlags := 2, nameIndex := 25, descriptorIndex := 26, attributes := #[] }, { accessFlags := 26, nameIndex := 1116, descriptorIndex := 1117, attributes := #[] }, { accessFlags := 24, nameIndex := 40, descriptorIndex := 26, attributes := #[] }, { accessFlags := 26, nameIndex := 1101, descriptorIndex := 1102, attributes := #[] }, { accessFlags := 26, nameIndex := 1121, descriptorIndex := 1122, attributes := #[] }, { accessFlags := 25, nameIndex := 599, descriptorIndex := 600, attributes := #[] }, { accessFlags := 24, nameIndex := 1125, descriptorIndex := 18, attributes := #[] }, { accessFlags := 24, nameIndex := 1127, descriptorIndex := 18, attributes := #[] }])
  fields := #[{ name := "value", type := (.array .byte), accessFlags := 18, slot := 0, constantValue := 0 }, { name := "coder", type := .byte, accessFlags := 18, slot := 1, constantValue := 0 }, { name := "hash", type := .int, accessFlags := 2, slot := 2, constantValue := 0 }, { name := "hashIsZero", type := .boolean, accessFlags := 2, slot := 3, constantValue := 0 }, { name := "serialVersionUID", type := .long, accessFlags := 26, slot := 0, constantValue := 0 }, { name := "COMPACT_STRINGS", type := .boolean, accessFlags := 24, slot := 1, constantValue := 0 }, { name := "serialPersistentFields", type := (.array (.object "java/io/ObjectStreamField")), accessFlags := 26, slot := 2, constantValue := 0 }, { name := "REPL", type := .char, accessFlags := 26, slot := 3, constantValue := 0 }, { name := "CASE_INSENSITIVE_ORDER", type := (.object "java/util/Comparator"), accessFlags := 25, slot := 4, constantValue := 0 }, { name := "LATIN1", type := .byte, accessFlags := 24, slot := 5, constantValue := 0 }, { name := "UTF16", type := .byte, accessFlags := 24, slot := 6, constantValue := 0 }]
  methods := #[k13m0, k13m1, k13m2]
  instanceTypes := #[(.array .byte), .byte, .int, .boolean]
  staticTypes := #[.long, .boolean, (.array (.object "java/io/ObjectStreamField")), .char, (.object "java/util/Comparator"), .byte, .byte]
  resolved := Array.replicate 1451 none
  statics := some 2 }

def pool14 : Array CpInfo := pool [(4, .class_ 6), (1, u "java/lang/Object"), (0, u "<init>"), (0, u "()V"), (5, .class_ 16), (1, u "java/lang/StringLatin1"), (73, u "canEncode"), (14, u "(C)Z"), (15, u "$assertionsDisabled"), (0, u "Z"), (98, .class_ 223), (1, u "java/lang/StringLatin1$LinesSpliterator"), (156, u "toBytes"), (1, u "(C)[B"), (7, .class_ 391), (0, u "java/lang/StringLatin1$CharsSpliterator")] 3

def k14m0 : Method := { name := "<init>", desc := "()V", sig := { parameters := [], returnType := none }, accessFlags := 0, code := none }
def k14c1 : Code := { maxStack := 2, maxLocals := 1, code := jdk_43_method_3_code, exceptionTable := #[], attributes := #[] }
def k14m1 : Method := { name := "canEncode", desc := "(C)Z", sig := { parameters := [.char], returnType := some .boolean }, accessFlags := 9, code := some k14c1 }
def k14c2 : Code := { maxStack := 4, maxLocals := 1, code := jdk_43_method_46_code, exceptionTable := #[], attributes := #[] }
def k14m2 : Method := { name := "toBytes", desc := "(C)[B", sig := { parameters := [.char], returnType := some (.array .byte) }, accessFlags := 9, code := some k14c2 }
/-- java/lang/StringLatin1 -/
def k14 : Class := { plain "java/lang/StringLatin1" (some 0) with
  accessFlags := 48
  interfaces := #[]
  cf := some (fileOf pool14 14 #[.nestMembers #[390, 221]] #[{ accessFlags := 0, nameIndex := 7, descriptorIndex := 8, attributes := #[] }, { accessFlags := 9, nameIndex := 90, descriptorIndex := 105, attributes := #[] }, { accessFlags := 9, nameIndex := 380, descriptorIndex := 382, attributes := #[] }] 48 4 #[] #[{ accessFlags := 4120, nameIndex := 121, descriptorIndex := 122, attributes := #[] }])
  fields := #[{ name := "$assertionsDisabled", type := .boolean, accessFlags := 4120, slot := 0, constantValue := 0 }]
  methods := #[k14m0, k14m1, k14m2]
  instanceTypes := #[]
  staticTypes := #[.boolean]
  resolved := Array.replicate 395 none
  statics := none }

def pool15 : Array CpInfo := pool [(2, .class_ 4), (1, u "com/example/hydrate/hydrate/dialect/Dialect"), (16, .class_ 23), (1, u "com/example/hydrate/hydrate/dialect/Dialect$3")] 112

/-- com/example/hydrate/hydrate/dialect/Dialect$3 -/
def k15 : Class := { plain "com/example/hydrate/hydrate/dialect/Dialect$3" (some 7) with
  accessFlags := 16432
  interfaces := #[]
  cf := some (fileOf pool15 21 #[.nestHost 2] #[] 16432 2 #[] #[])
  fields := #[]
  methods := #[]
  instanceTypes := #[(.object "java/lang/String"), .int, .int, (.object "java/lang/String"), (.object "java/lang/String"), .boolean]
  staticTypes := #[]
  resolved := Array.replicate 136 none
  statics := none }

def pool16 : Array CpInfo := pool [(2, .class_ 4), (1, u "com/example/hydrate/hydrate/dialect/Dialect"), (7, .class_ 14), (1, u "com/example/hydrate/hydrate/dialect/Dialect$1")] 43

/-- com/example/hydrate/hydrate/dialect/Dialect$1 -/
def k16 : Class := { plain "com/example/hydrate/hydrate/dialect/Dialect$1" (some 7) with
  accessFlags := 16432
  interfaces := #[]
  cf := some (fileOf pool16 12 #[.nestHost 2] #[] 16432 2 #[] #[])
  fields := #[]
  methods := #[]
  instanceTypes := #[(.object "java/lang/String"), .int, .int, (.object "java/lang/String"), (.object "java/lang/String"), .boolean]
  staticTypes := #[]
  resolved := Array.replicate 58 none
  statics := none }

def pool17 : Array CpInfo := pool [(2, .class_ 4), (1, u "java/lang/Object"), (0, u "<init>"), (0, u "()V"), (17, .class_ 26), (1, u "jdk/internal/util/Preconditions"), (28, .class_ 56), (0, u "jdk/internal/util/Preconditions$4"), (57, .class_ 115), (0, u "jdk/internal/util/Preconditions$1"), (7, u "SIOOBE_FORMATTER"), (0, u "Ljava/util/function/BiFunction;"), (0, .class_ 126), (0, u "jdk/internal/util/Preconditions$2"), (3, u "AIOOBE_FORMATTER"), (0, .class_ 132), (0, u "jdk/internal/util/Preconditions$3"), (3, u "IOOBE_FORMATTER")] 57

def k17m0 : Method := { name := "<init>", desc := "()V", sig := { parameters := [], returnType := none }, accessFlags := 1, code := none }
/-- jdk/internal/util/Preconditions -/
def k17 : Class := { plain "jdk/internal/util/Preconditions" (some 0) with
  accessFlags := 33
  interfaces := #[]
  cf := some (fileOf pool17 24 #[.nestMembers #[55, 131, 125, 114]] #[{ accessFlags := 1, nameIndex := 5, descriptorIndex := 6, attributes := #[] }] 33 2 #[] #[{ accessFlags := 25, nameIndex := 123, descriptorIndex := 124, attributes := #[] }, { accessFlags := 25, nameIndex := 130, descriptorIndex := 124, attributes := #[] }, { accessFlags := 25, nameIndex := 136, descriptorIndex := 124, attributes := #[] }])
  fields := #[{ name := "SIOOBE_FORMATTER", type := (.object "java/util/function/BiFunction"), accessFlags := 25, slot := 0, constantValue := 0 }, { name := "AIOOBE_FORMATTER", type := (.object "java/util/function/BiFunction"), accessFlags := 25, slot := 1, constantValue := 0 }, { name := "IOOBE_FORMATTER", type := (.object "java/util/function/BiFunction"), accessFlags := 25, slot := 2, constantValue := 0 }]
  methods := #[k17m0]
  instanceTypes := #[]
  staticTypes := #[(.object "java/util/function/BiFunction"), (.object "java/util/function/BiFunction"), (.object "java/util/function/BiFunction")]
  resolved := Array.replicate 194 none
  statics := some 3 }

def pool18 : Array CpInfo := pool [(9, u "<init>"), (6, .class_ 18), (1, u "java/lang/Object"), (0, u "()V"), (1, .class_ 23), (1, u "jdk/internal/util/ArraysSupport"), (0, u "LOG2_ARRAY_LONG_INDEX_SCALE"), (0, u "I"), (2, u "U"), (0, u "Ljdk/internal/misc/Unsafe;"), (8, u "BIG_ENDIAN"), (0, u "Z"), (8, u "LOG2_BYTE_BIT_SIZE"), (4, u "LOG2_ARRAY_INT_INDEX_SCALE"), (54, u "JLA"), (0, u "Ljdk/internal/access/JavaLangAccess;"), (11, u "LOG2_ARRAY_BOOLEAN_INDEX_SCALE"), (9, u "LOG2_ARRAY_BYTE_INDEX_SCALE"), (5, u "LOG2_ARRAY_CHAR_INDEX_SCALE"), (5, u "LOG2_ARRAY_SHORT_INDEX_SCALE"), (18, u "LOG2_ARRAY_FLOAT_INDEX_SCALE"), (24, u "LOG2_ARRAY_DOUBLE_INDEX_SCALE"), (89, u "T_BOOLEAN"), (2, u "T_CHAR"), (1, u "T_FLOAT"), (1, u "T_DOUBLE"), (1, u "T_BYTE"), (1, u "T_SHORT"), (1, u "T_INT"), (1, u "T_LONG"), (1, u "SOFT_MAX_ARRAY_LENGTH")] 83

def k18m0 : Method := { name := "<init>", desc := "()V", sig := { parameters := [], returnType := none }, accessFlags := 2, code := none }
/-- jdk/internal/util/ArraysSupport -/
def k18 : Class := { plain "jdk/internal/util/ArraysSupport" (some 0) with
  accessFlags := 33
  interfaces := #[]
  cf := some (fileOf pool18 21 #[] #[{ accessFlags := 2, nameIndex := 9, descriptorIndex := 19, attributes := #[] }] 33 16 #[] #[{ accessFlags := 24, nameIndex := 28, descriptorIndex := 29, attributes := #[] }, { accessFlags := 26, nameIndex := 38, descriptorIndex := 39, attributes := #[] }, { accessFlags := 25, nameIndex := 121, descriptorIndex := 25, attributes := #[] }, { accessFlags := 25, nameIndex := 131, descriptorIndex := 25, attributes := #[] }, { accessFlags := 25, nameIndex := 137, descriptorIndex := 25, attributes := #[] }, { accessFlags := 25, nameIndex := 143, descriptorIndex := 25, attributes := #[] }, { accessFlags := 25, nameIndex := 53, descriptorIndex := 25, attributes := #[] }, { accessFlags := 25, nameIndex := 24, descriptorIndex := 25, attributes := #[] }, { accessFlags := 25, nameIndex := 162, descriptorIndex := 25, attributes := #[] }, { accessFlags := 25, nameIndex := 187, descriptorIndex := 25, attributes := #[] }, { accessFlags := 26, nameIndex := 48, descriptorIndex := 25, attributes := #[] }, { accessFlags := 25, nameIndex := 277, descriptorIndex := 25, attributes := #[] }, { accessFlags := 25, nameIndex := 280, descriptorIndex := 25, attributes := #[] }, { accessFlags := 25, nameIndex := 282, descriptorIndex := 25, attributes := #[] }, { accessFlags := 25, nameIndex := 284, descriptorIndex := 25, attributes := #[] }, { accessFlags := 25, nameIndex := 286, descriptorIndex := 25, attributes := #[] }, { accessFlags := 25, nameIndex := 288, descriptorIndex := 25, attributes := #[] }, { accessFlags := 25, nameIndex := 290, descriptorIndex := 25, attributes := #[] }, { accessFlags := 25, nameIndex := 292, descriptorIndex := 25, attributes := #[] }, { accessFlags := 26, nameIndex := 108, descriptorIndex := 109, attributes := #[] }, { accessFlags := 25, nameIndex := 294, descriptorIndex := 25, attributes := #[] }])
  fields := #[{ name := "U", type := (.object "jdk/internal/misc/Unsafe"), accessFlags := 24, slot := 0, constantValue := 0 }, { name := "BIG_ENDIAN", type := .boolean, accessFlags := 26, slot := 1, constantValue := 0 }, { name := "LOG2_ARRAY_BOOLEAN_INDEX_SCALE", type := .int, accessFlags := 25, slot := 2, constantValue := 0 }, { name := "LOG2_ARRAY_BYTE_INDEX_SCALE", type := .int, accessFlags := 25, slot := 3, constantValue := 0 }, { name := "LOG2_ARRAY_CHAR_INDEX_SCALE", type := .int, accessFlags := 25, slot := 4, constantValue := 0 }, { name := "LOG2_ARRAY_SHORT_INDEX_SCALE", type := .int, accessFlags := 25, slot := 5, constantValue := 0 }, { name := "LOG2_ARRAY_INT_INDEX_SCALE", type := .int, accessFlags := 25, slot := 6, constantValue := 0 }, { name := "LOG2_ARRAY_LONG_INDEX_SCALE", type := .int, accessFlags := 25, slot := 7, constantValue := 0 }, { name := "LOG2_ARRAY_FLOAT_INDEX_SCALE", type := .int, accessFlags := 25, slot := 8, constantValue := 0 }, { name := "LOG2_ARRAY_DOUBLE_INDEX_SCALE", type := .int, accessFlags := 25, slot := 9, constantValue := 0 }, { name := "LOG2_BYTE_BIT_SIZE", type := .int, accessFlags := 26, slot := 10, constantValue := 0 }, { name := "T_BOOLEAN", type := .int, accessFlags := 25, slot := 11, constantValue := 0 }, { name := "T_CHAR", type := .int, accessFlags := 25, slot := 12, constantValue := 0 }, { name := "T_FLOAT", type := .int, accessFlags := 25, slot := 13, constantValue := 0 }, { name := "T_DOUBLE", type := .int, accessFlags := 25, slot := 14, constantValue := 0 }, { name := "T_BYTE", type := .int, accessFlags := 25, slot := 15, constantValue := 0 }, { name := "T_SHORT", type := .int, accessFlags := 25, slot := 16, constantValue := 0 }, { name := "T_INT", type := .int, accessFlags := 25, slot := 17, constantValue := 0 }, { name := "T_LONG", type := .int, accessFlags := 25, slot := 18, constantValue := 0 }, { name := "JLA", type := (.object "jdk/internal/access/JavaLangAccess"), accessFlags := 26, slot := 19, constantValue := 0 }, { name := "SOFT_MAX_ARRAY_LENGTH", type := .int, accessFlags := 25, slot := 20, constantValue := 0 }]
  methods := #[k18m0]
  instanceTypes := #[]
  staticTypes := #[(.object "jdk/internal/misc/Unsafe"), .boolean, .int, .int, .int, .int, .int, .int, .int, .int, .int, .int, .int, .int, .int, .int, .int, .int, .int, (.object "jdk/internal/access/JavaLangAccess"), .int]
  resolved := Array.replicate 378 none
  statics := none }

def pool19 : Array CpInfo := pool [(1, u "java/lang/Cloneable"), (0, .class_ 1), (0, u "java/lang/Object"), (0, .class_ 3)] 3

/-- java/lang/Cloneable -/
def k19 : Class := { plain "java/lang/Cloneable" (some 0) with
  accessFlags := 1537
  interfaces := #[]
  cf := some (fileOf pool19 2 #[] #[] 1537 4 #[] #[])
  fields := #[]
  methods := #[]
  instanceTypes := #[]
  staticTypes := #[]
  resolved := Array.replicate 8 none
  statics := none }

/-- the primitive byte -/
def k20 : Class := { plain "byte" none with kind := .primitive 'B', accessFlags := 0x411 }
/-- [B -/
def k21 : Class := { plain "[B" (some 0) with kind := .array 20 .byte, interfaces := #[19, 4], accessFlags := 1041 }

def heap : Heap := #[{ cls := 6, slots := #[.ref 4, .ref 5, .ref 6, .ref 7, .null], vm := .statics 6 },
  { cls := 7, slots := #[.ref 8, .ref 9, .ref 10, .null, .null], vm := .statics 7 },
  { cls := 13, slots := #[.long 0, .int 1, .null, .int 0, .null, .int 0, .int 0], vm := .statics 13 },
  { cls := 17, slots := #[.null, .null, .null], vm := .statics 17 },
  { cls := 6, slots := #[.null, .int 0, .int 0, .null], vm := .none },
  { cls := 6, slots := #[.null, .int 1, .int 0, .null], vm := .none },
  { cls := 6, slots := #[.null, .int 2, .int 0, .null], vm := .none },
  { cls := 6, slots := #[.null, .int 3, .int 0, .null], vm := .none },
  { cls := 16, slots := #[.null, .int 0, .int 0, .null, .null, .int 1], vm := .none },
  { cls := 10, slots := #[.null, .int 1, .int 0, .null, .null, .int 1], vm := .none },
  { cls := 15, slots := #[.null, .int 2, .int 0, .null, .null, .int 0], vm := .none }]
def classes : Array Class := #[k0, k1, k2, k3, k4, k5, k6, k7, k8, k9, k10, k11, k12, k13, k14, k15, k16, k17, k18, k19, k20, k21]
def interned : List (Array UInt16 × Addr) := []
def slotsUsed : Nat := 54
def theMethod : MethodId := ⟨1, 3⟩
def args0 : Array Value := #[.int 3, .int 1, .int 50, .int 321]
def aboutOver (below : List Frame) : State where
  vm := { classes := classes, interned := interned.toArray }
  heap := heap
  slotsUsed := slotsUsed
  threads := #[{ frames := .invoking theMethod args0 :: below }]
def below0 : List Frame := [.native { method := ⟨0, 0⟩, args := #[] }]
def about1 : State := aboutOver below0
def p0 : Program := .bare "" "" ""
def e0 : Env := launch0.env 0 0 0
theorem w_frames : about1.frames = Frame.invoking theMethod args0 :: below0 := rfl
set_option maxRecDepth 65536 in
theorem w_args : argsFit about1.vm theMethod args0 = true := by decide +kernel
set_option maxRecDepth 65536 in
theorem w_heap : heapFits about1 = true := by decide +kernel
set_option maxRecDepth 65536 in
theorem w_runnable : about1.curStatus? = some .runnable := by decide +kernel
set_option maxRecDepth 65536 in
theorem w_alone : about1.alone = true := by decide +kernel
set_option maxRecDepth 65536 in
theorem w_named : about1.methodNamed? x = some theMethod := by decide +kernel
set_option maxRecDepth 65536 in
theorem w_hears : about1.hears theMethod below0 = true := by decide +kernel
set_option maxRecDepth 65536 in
theorem w_ripe : about1.ripe theMethod args0 below0 = true := by decide +kernel
theorem w_running : about1.status = .running := rfl
set_option maxRecDepth 65536 in
theorem w_room : about1.hasRoom e0.platform room_1 = true :=
  launch0.hasRoom_least _ room_1 (by decide +kernel) (by decide +kernel) (by decide +kernel) (by decide +kernel) (by decide +kernel) (by decide +kernel)
theorem allAtoms_all (ts : List Jvm.Cond) (a : Array Jvm.Value) (st : Jvm.State) : (allAtoms ts).before a st = ts.all (fun c => c.before a st) := by
  induction ts with
  | nil => rfl
  | cons c t ih =>
    show (Jvm.Cond.and c (allAtoms t)).before a st = _
    rw [Jvm.Cond.before_and, ih, List.all_cons]
def words1 : List Jvm.Cond := Jvm.Cond.code x code maxLocals ret :: tables_1
/-- a 'code' word, met by the world's own term for the bytes: nothing is compared byte by byte -/
theorem code_word {y : MethodName} {bytes : ByteArray} {mx : Nat} {rt : Option FieldType} {a : Array Value} {s : State} {m : MethodId} {meth : Method} {c : Code} (h1 : s.methodNamed? y = some m) (h2 : s.vm.method? m = some meth) (h3 : meth.code = some c) (h4 : c.code = bytes)
    (h5 : (c.maxLocals == mx && c.exceptionTable.isEmpty && decide (c.maxStack ≤ mostOperands) && decide (meth.sig.returnType = rt) && !meth.locks && decide (parseMethodDescriptor y.desc = some meth.sig)) = true) : (Jvm.Cond.code y bytes mx rt).before a s = true := by
  simp only [Bool.and_eq_true, beq_iff_eq, Bool.not_eq_true', decide_eq_true_eq] at h5
  obtain ⟨⟨⟨⟨⟨g1, g2⟩, g3⟩, g4⟩, g5⟩, g6⟩ := h5
  simp [Cond.before, Cond.holds, Cond.value, h1, h2, h3, h4, g1, g2, g3, g4, g5, g6]
def isCode : Jvm.Cond → Bool
  | .code _ _ _ _ => true
  | _ => false
theorem all_split {L : List Jvm.Cond} {P : Jvm.Cond → Bool} (h1 : L.all (fun c => isCode c || P c) = true) (h2 : ∀ c ∈ L.filter isCode, P c = true) : L.all P = true := by
  refine List.all_eq_true.mpr fun c hc => ?_
  have h := List.all_eq_true.mp h1 c hc
  rcases Bool.eq_false_or_eq_true (isCode c) with hi | hi
  · exact h2 c (List.mem_filter.mpr ⟨hc, hi⟩)
  · simpa [hi] using h
set_option maxRecDepth 65536 in
theorem w_c0 : (Jvm.Cond.code x code maxLocals ret).before args0 about1 = true := code_word (m := ⟨1, 3⟩) (meth := k1m3) (c := k1c3) (by decide +kernel) rfl rfl rfl (by decide +kernel)
set_option maxRecDepth 65536 in
theorem w_c1 : (Jvm.Cond.code ({ cls := "com/example/hydrate/hydrate/mapping/IdGeneratorOnPinLaw", name := "kindOf", desc := "(I)Lcom/example/hydrate/hydrate/mapping/IdGenerator$Kind;" } : Jvm.MethodName) method_2_code (2 : Nat) (Option.some (Jvm.ClassFile.FieldType.object "com/example/hydrate/hydrate/mapping/IdGenerator$Kind"))).before args0 about1 = true := code_word (m := ⟨1, 1⟩) (meth := k1m1) (c := k1c1) (by decide +kernel) rfl rfl rfl (by decide +kernel)
set_option maxRecDepth 65536 in
theorem w_c2 : (Jvm.Cond.code ({ cls := "com/example/hydrate/hydrate/mapping/IdGeneratorOnPinLaw", name := "dialectOf", desc := "(I)Lcom/example/hydrate/hydrate/dialect/Dialect;" } : Jvm.MethodName) method_3_code (2 : Nat) (Option.some (Jvm.ClassFile.FieldType.object "com/example/hydrate/hydrate/dialect/Dialect"))).before args0 about1 = true := code_word (m := ⟨1, 2⟩) (meth := k1m2) (c := k1c2) (by decide +kernel) rfl rfl rfl (by decide +kernel)
set_option maxRecDepth 65536 in
theorem w_c3 : (Jvm.Cond.code ({ cls := "com/example/hydrate/hydrate/mapping/IdGenerator", name := "<init>", desc := "(Lcom/example/hydrate/hydrate/mapping/IdGenerator$Kind;Ljava/lang/String;I)V" } : Jvm.MethodName) prog_57_method_1_code (4 : Nat) (Option.none : Option Jvm.ClassFile.FieldType)).before args0 about1 = true := code_word (m := ⟨9, 0⟩) (meth := k9m0) (c := k9c0) (by decide +kernel) rfl rfl rfl (by decide +kernel)
set_option maxRecDepth 65536 in
theorem w_c4 : (Jvm.Cond.code ({ cls := "java/lang/Record", name := "<init>", desc := "()V" } : Jvm.MethodName) jdk_30_method_1_code (1 : Nat) (Option.none : Option Jvm.ClassFile.FieldType)).before args0 about1 = true := code_word (m := ⟨8, 0⟩) (meth := k8m0) (c := k8c0) (by decide +kernel) rfl rfl rfl (by decide +kernel)
set_option maxRecDepth 65536 in
theorem w_c5 : (Jvm.Cond.code ({ cls := "java/lang/Object", name := "<init>", desc := "()V" } : Jvm.MethodName) object_method_1_code (1 : Nat) (Option.none : Option Jvm.ClassFile.FieldType)).before args0 about1 = true := code_word (m := ⟨0, 0⟩) (meth := k0m0) (c := k0c0) (by decide +kernel) rfl rfl rfl (by decide +kernel)
set_option maxRecDepth 65536 in
theorem w_c6 : (Jvm.Cond.code ({ cls := "com/example/hydrate/hydrate/mapping/IdGenerator", name := "on", desc := "(Lcom/example/hydrate/hydrate/dialect/Dialect;)Lcom/example/hydrate/hydrate/mapping/IdGenerator$Kind;" } : Jvm.MethodName) prog_57_method_2_code (3 : Nat) (Option.some (Jvm.ClassFile.FieldType.object "com/example/hydrate/hydrate/mapping/IdGenerator$Kind"))).before args0 about1 = true := code_word (m := ⟨9, 1⟩) (meth := k9m1) (c := k9c1) (by decide +kernel) rfl rfl rfl (by decide +kernel)
set_option maxRecDepth 65536 in
theorem w_c7 : (Jvm.Cond.code ({ cls := "com/example/hydrate/hydrate/mapping/IdGenerator", name := "kind", desc := "()Lcom/example/hydrate/hydrate/mapping/IdGenerator$Kind;" } : Jvm.MethodName) prog_57_method_8_code (1 : Nat) (Option.some (Jvm.ClassFile.FieldType.object "com/example/hydrate/hydrate/mapping/IdGenerator$Kind"))).before args0 about1 = true := code_word (m := ⟨9, 2⟩) (meth := k9m2) (c := k9c2) (by decide +kernel) rfl rfl rfl (by decide +kernel)
set_option maxRecDepth 65536 in
theorem w_c8 : (Jvm.Cond.code ({ cls := "com/example/hydrate/hydrate/dialect/Dialect", name := "nativeSequences", desc := "()Z" } : Jvm.MethodName) prog_13_method_7_code (1 : Nat) (Option.some Jvm.ClassFile.FieldType.boolean)).before args0 about1 = true := code_word (m := ⟨7, 0⟩) (meth := k7m0) (c := k7c0) (by decide +kernel) rfl rfl rfl (by decide +kernel)
set_option maxRecDepth 65536 in
theorem w_c9 : (Jvm.Cond.code ({ cls := "java/lang/String", name := "valueOf", desc := "(C)Ljava/lang/String;" } : Jvm.MethodName) jdk_42_method_139_code (1 : Nat) (Option.some (Jvm.ClassFile.FieldType.object "java/lang/String"))).before args0 about1 = true := code_word (m := ⟨13, 1⟩) (meth := k13m1) (c := k13c1) (by decide +kernel) rfl rfl rfl (by decide +kernel)
set_option maxRecDepth 65536 in
theorem w_c10 : (Jvm.Cond.code ({ cls := "java/lang/StringLatin1", name := "canEncode", desc := "(C)Z" } : Jvm.MethodName) jdk_43_method_3_code (1 : Nat) (Option.some Jvm.ClassFile.FieldType.boolean)).before args0 about1 = true := code_word (m := ⟨14, 1⟩) (meth := k14m1) (c := k14c1) (by decide +kernel) rfl rfl rfl (by decide +kernel)
set_option maxRecDepth 65536 in
theorem w_c11 : (Jvm.Cond.code ({ cls := "java/lang/StringLatin1", name := "toBytes", desc := "(C)[B" } : Jvm.MethodName) jdk_43_method_46_code (1 : Nat) (Option.some (Jvm.ClassFile.FieldType.array Jvm.ClassFile.FieldType.byte))).before args0 about1 = true := code_word (m := ⟨14, 2⟩) (meth := k14m2) (c := k14c2) (by decide +kernel) rfl rfl rfl (by decide +kernel)
set_option maxRecDepth 65536 in
theorem w_c12 : (Jvm.Cond.code ({ cls := "java/lang/String", name := "<init>", desc := "([BB)V" } : Jvm.MethodName) jdk_42_method_151_code (3 : Nat) (Option.none : Option Jvm.ClassFile.FieldType)).before args0 about1 = true := code_word (m := ⟨13, 2⟩) (meth := k13m2) (c := k13c2) (by decide +kernel) rfl rfl rfl (by decide +kernel)
def codes1 : List Jvm.Cond := [Jvm.Cond.code x code maxLocals ret, Jvm.Cond.code ({ cls := "com/example/hydrate/hydrate/mapping/IdGeneratorOnPinLaw", name := "kindOf", desc := "(I)Lcom/example/hydrate/hydrate/mapping/IdGenerator$Kind;" } : Jvm.MethodName) method_2_code (2 : Nat) (Option.some (Jvm.ClassFile.FieldType.object "com/example/hydrate/hydrate/mapping/IdGenerator$Kind")), Jvm.Cond.code ({ cls := "com/example/hydrate/hydrate/mapping/IdGeneratorOnPinLaw", name := "dialectOf", desc := "(I)Lcom/example/hydrate/hydrate/dialect/Dialect;" } : Jvm.MethodName) method_3_code (2 : Nat) (Option.some (Jvm.ClassFile.FieldType.object "com/example/hydrate/hydrate/dialect/Dialect")), Jvm.Cond.code ({ cls := "com/example/hydrate/hydrate/mapping/IdGenerator", name := "<init>", desc := "(Lcom/example/hydrate/hydrate/mapping/IdGenerator$Kind;Ljava/lang/String;I)V" } : Jvm.MethodName) prog_57_method_1_code (4 : Nat) (Option.none : Option Jvm.ClassFile.FieldType), Jvm.Cond.code ({ cls := "java/lang/Record", name := "<init>", desc := "()V" } : Jvm.MethodName) jdk_30_method_1_code (1 : Nat) (Option.none : Option Jvm.ClassFile.FieldType), Jvm.Cond.code ({ cls := "java/lang/Object", name := "<init>", desc := "()V" } : Jvm.MethodName) object_method_1_code (1 : Nat) (Option.none : Option Jvm.ClassFile.FieldType), Jvm.Cond.code ({ cls := "com/example/hydrate/hydrate/mapping/IdGenerator", name := "on", desc := "(Lcom/example/hydrate/hydrate/dialect/Dialect;)Lcom/example/hydrate/hydrate/mapping/IdGenerator$Kind;" } : Jvm.MethodName) prog_57_method_2_code (3 : Nat) (Option.some (Jvm.ClassFile.FieldType.object "com/example/hydrate/hydrate/mapping/IdGenerator$Kind")), Jvm.Cond.code ({ cls := "com/example/hydrate/hydrate/mapping/IdGenerator", name := "kind", desc := "()Lcom/example/hydrate/hydrate/mapping/IdGenerator$Kind;" } : Jvm.MethodName) prog_57_method_8_code (1 : Nat) (Option.some (Jvm.ClassFile.FieldType.object "com/example/hydrate/hydrate/mapping/IdGenerator$Kind")), Jvm.Cond.code ({ cls := "com/example/hydrate/hydrate/dialect/Dialect", name := "nativeSequences", desc := "()Z" } : Jvm.MethodName) prog_13_method_7_code (1 : Nat) (Option.some Jvm.ClassFile.FieldType.boolean), Jvm.Cond.code ({ cls := "java/lang/String", name := "valueOf", desc := "(C)Ljava/lang/String;" } : Jvm.MethodName) jdk_42_method_139_code (1 : Nat) (Option.some (Jvm.ClassFile.FieldType.object "java/lang/String")), Jvm.Cond.code ({ cls := "java/lang/StringLatin1", name := "canEncode", desc := "(C)Z" } : Jvm.MethodName) jdk_43_method_3_code (1 : Nat) (Option.some Jvm.ClassFile.FieldType.boolean), Jvm.Cond.code ({ cls := "java/lang/StringLatin1", name := "toBytes", desc := "(C)[B" } : Jvm.MethodName) jdk_43_method_46_code (1 : Nat) (Option.some (Jvm.ClassFile.FieldType.array Jvm.ClassFile.FieldType.byte)), Jvm.Cond.code ({ cls := "java/lang/String", name := "<init>", desc := "([BB)V" } : Jvm.MethodName) jdk_42_method_151_code (3 : Nat) (Option.none : Option Jvm.ClassFile.FieldType)]
set_option maxRecDepth 65536 in
theorem codes_eq : words1.filter isCode = codes1 := rfl
theorem w_codes : ∀ c ∈ words1.filter isCode, c.before args0 about1 = true := by
  rw [codes_eq]
  intro c hc
  simp only [codes1, List.mem_cons, List.not_mem_nil, or_false] at hc
  rcases hc with rfl | rfl | rfl | rfl | rfl | rfl | rfl | rfl | rfl | rfl | rfl | rfl | rfl
  · exact w_c0
  · exact w_c1
  · exact w_c2
  · exact w_c3
  · exact w_c4
  · exact w_c5
  · exact w_c6
  · exact w_c7
  · exact w_c8
  · exact w_c9
  · exact w_c10
  · exact w_c11
  · exact w_c12
set_option maxRecDepth 65536 in
theorem w_t1 : (words1.take 24).all (fun c => isCode c || c.before args0 about1) = true := by decide +kernel
set_option maxRecDepth 65536 in
theorem w_t2 : ((words1.drop 24).take 24).all (fun c => isCode c || c.before args0 about1) = true := by decide +kernel
set_option maxRecDepth 65536 in
theorem w_t3 : (((words1.drop 24).drop 24).take 24).all (fun c => isCode c || c.before args0 about1) = true := by decide +kernel
set_option maxRecDepth 65536 in
theorem w_t4 : (((words1.drop 24).drop 24).drop 24).all (fun c => isCode c || c.before args0 about1) = true := by decide +kernel
theorem w_tables : (allAtoms (Jvm.Cond.code x code maxLocals ret :: tables_1)).before args0 about1 = true := by
  rw [allAtoms_all]
  show words1.all (fun c => c.before args0 about1) = true
  refine all_split ?_ w_codes
  rw [← List.take_append_drop 24 words1, List.all_append, w_t1, ← List.take_append_drop 24 (words1.drop 24), List.all_append, w_t2, ← List.take_append_drop 24 ((words1.drop 24).drop 24), List.all_append, w_t3, w_t4]
  rfl
set_option maxRecDepth 65536 in
theorem w_rest : rest_1_c.before args0 about1 = true := by decide +kernel
set_option maxRecDepth 65536 in
theorem w_case : (Jvm.Cond.and given_1 narrow_1).before args0 about1 = true := by decide +kernel
theorem w_applies : (headSpec (Jvm.Cond.code x code maxLocals ret :: tables_1) room_1).applies x e0.platform about1 = true :=
  (Spec.applies_iff w_frames).mpr ⟨w_running, w_runnable, w_alone, w_named, w_hears, w_ripe, w_room, w_tables⟩
theorem atStart : AtStart classFile x code maxLocals ret World_1 tables_1 room_1 Calls_1 rest_1 Pre_1 launch0 p0 e0 about1 theMethod args0 below0 :=
  ⟨lists_1, trivial, launch0.admits_env _ _ _, launch0.least_env, fairChoices_fair.cas, fairChoices_fair.clock, w_frames, w_args, w_heap, w_applies, trivial, w_rest, w_case⟩
end start1
theorem witness_1 : WitnessClaimed_1 := ⟨start1.p0, start1.e0, start1.about1, start1.theMethod, start1.args0, start1.below0, start1.atStart⟩
end Jvm.Pilot.@@N@@
