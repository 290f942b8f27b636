import JvmDerived
import JvmDerived.Pilot.@@N@@Statement
import JvmDerived.Pilot.@@N@@Code
set_option linter.unusedVariables false
set_option linter.unusedSimpArgs false
namespace Jvm.RoadKit
open Sem ClassFile Op Lib Jvm.Stand Jvm.Free Jvm.LawKit
section New
variable {p : Program} {l : Launch} {e : Env} {R : Room} {s : State} {m : MethodId} {args : Array Value} {below : List Frame} {meth : Method} {c : Code} {T : State} {locs : List Loc} {cells slots : Nat}
theorem retI (X : Stand p l e R s m args below meth c T locs cells slots) (hx : p.tables.exec = Jvm.exec) {pc : Nat} {Ls : Array Slot} {z : Int32} {rest : List Value} (hret : meth.sig.returnType = some .int) (hd : decode c.code pc = .ok (.ireturn, 1)) {fs : List Frame}
    (hl : ∀ (f : JFrame) (acts : List Action), f.method = m → f.locked = none → f.entered = [] → (doReturn e (T.setTop f) acts (some (.int z))).1 = T.setFrames fs) : Steps p.tables e below (T.setTop (mkF m pc Ls (.int z :: rest))) (T.setFrames fs) := by
  have hm' : T.vm.method? m = some meth := X.method'
  have hn : narrow .int (.int z) = .int z := rfl
  show Steps p.tables e below (T.setTop { method := m, pc := pc, locals := Ls, stack := _ :: rest, locked := none }) _
  jvm_step X.here [X.here.top, hx, hd, hm', hret, hn]
  first | (intro acts; rw [hl _ acts rfl rfl rfl]) | rw [hl _ _ rfl rfl rfl]
  exact Steps.refl _
end New
end Jvm.RoadKit
namespace Jvm.Pilot.@@N@@
open Jvm Jvm.ClassFile Sem Op Lib Jvm.Free Jvm.Stand Jvm.LawKit Jvm.RoadKit Bundle Jvm.Pilot.@@N@@.Jvm.D
def QR (r : Option Value) (h0 : Heap) (n0 : Nat) (v : Option Value) (h : Heap) (L : List Loc) : Prop := v = r ∧ Fr n0 L ∧ h = h0
def QL (r : Option Value) (n0 : Nat) (v : Option Value) (h : Heap) (L : List Loc) : Prop := v = r ∧ Fr n0 L
theorem own_sta {s : State} {args : Array Value} {C n d K : String} (hi : (Jvm.Cond.initialized C).before args s = true) (hl : (Jvm.Cond.laysStatic C n d).before args s = true) (hx : (Jvm.Cond.exactly (.static C n d) K).value args s none s [] = some true) :
    ∃ a, (Term.static C n d).eval args s none [] s = some (.ref a) ∧ Sta s s.heap C n d (.ref a) ∧ Exa s s.heap a K := by
  obtain ⟨a, ev⟩ := exa_v hx
  exact ⟨a, ev, Sta.start ev (Or.inr ⟨hi, hl⟩), Exa.start ev hx⟩
theorem own_fld {s : State} {args : Array Value} {t : Term} {C n d : String} {k : Int32} {a : Addr} (ev : t.eval args s none [] s = some (.ref a)) (h : (Jvm.Cond.eq (.field t C n d) (.int k)).value args s none s [] = some true) : Fld s s.heap a C n d (.int k) := by
  obtain ⟨x, y, e1, e2, k1, k2⟩ := cmp_v (Or.inl h)
  rw [Term.int_eval] at e2
  cases e2
  obtain ⟨z, rfl⟩ := k2
  have hz : z = k := by simpa [Cond.value, e1, Term.int_eval] using h
  subst hz
  exact Fld.start ((fld_at ev).symm.trans e1)
theorem own_mod (x d : Int32) (n : Int) (hd : d.toInt = n) (hn : 0 < n) : 0 ≤ (HMod.hMod (x &&& (2147483647 : Int32)) d).toInt ∧ (HMod.hMod (x &&& (2147483647 : Int32)) d).toInt < n := by
  have h1 := (c_and x 2147483647 (by decide)).1
  have h2 := (c_irem (x &&& 2147483647) d n hd).1 h1
  have h3 : (HMod.hMod (x &&& (2147483647 : Int32)) d).toInt = (x &&& 2147483647).toInt % n := h2
  rw [h3]
  exact ⟨Int.emod_nonneg _ (by omega), Int.emod_lt_of_pos _ hn⟩
theorem own_is {x : Int32} (y : Int32) (h : x.toInt = y.toInt) : x = y := Int32.toInt_inj.mp h

theorem own_fldL {s : State} {args : Array Value} {t : Term} {C n d : String} {k : Int64} {a : Addr} (ev : t.eval args s none [] s = some (.ref a)) (h : (Jvm.Cond.eq (.field t C n d) (.long k)).value args s none s [] = some true) : Fld s s.heap a C n d (.long k) := by
  obtain ⟨x, y, e1, e2, k1, k2⟩ := cmp_v (Or.inl h)
  have e2' : some (Value.long k) = some y := e2
  cases e2'
  obtain ⟨z, rfl⟩ := k2
  have hz : z = k := gotT (eq_L e1 (show (Term.long k).eval args s none [] s = some (.long k) from rfl)) h
  subst hz
  exact Fld.start ((fld_at ev).symm.trans e1)
theorem own_elem {s : State} {args : Array Value} {t u : Term} {j : Int32} {b w : Addr} {cl : Cell} (ev : t.eval args s none [] s = some (.ref b)) (hc : s.heap[b]? = some cl) (ev2 : u.eval args s none [] s = some (.ref w)) (h : (Jvm.Cond.eq (.elem t (.int j)) u).value args s none s [] = some true) : cl.slots[j.toNatClampNeg]? = some (.ref w) := by
  obtain ⟨x, y, e1, e2, k1, k2⟩ := cmp_v (Or.inl h)
  have hx : x = .ref w := by
    simp only [Cond.value, e1, ev2] at h
    cases x <;> simp at h
    rw [h]
  subst hx
  exact (elem_in e1 ev (Term.int_eval _) hc).2
theorem own_len {s : State} {args : Array Value} {t : Term} {j : Int32} {n : Nat} {b : Addr} {cl : Cell} (hj : j.toInt = n) (ev : t.eval args s none [] s = some (.ref b)) (ha : s.arrayAt? b = some cl) (h : (Jvm.Cond.eq (.length t) (.int j)).value args s none s [] = some true) : cl.slots.size = n := by
  by_cases q : cl.slots.size < 2 ^ 31
  · have e1 := len_f ev ha q
    have hz : cl.slots.size.toInt32 = j := by simpa [Cond.value, e1, Term.int_eval] using h
    have hz' := congrArg Int32.toInt hz
    rw [len_toInt q, hj] at hz'
    exact Int.ofNat.inj hz'
  · exfalso
    have q' : ¬ cl.slots.size < 2147483648 := q
    have e1 : (Term.length t).eval args s none [] s = none := by simp [Term.eval, ev, ha, q']
    simp [Cond.value, e1] at h
def sel (t m : Int64) (w o : Addr) : Addr := if lcmpW t m < (0 : Int32) then o else w
theorem own_in {c : Cell} {i : Int32} {n : Nat} (hi : i.toNatClampNeg = n) (hneg : ¬ i < 0) (hlt : n < c.slots.size) : ¬ (i < 0 ∨ c.slots.size ≤ i.toNatClampNeg) := by
  rw [hi]; exact fun q => q.elim hneg (Nat.not_le_of_lt hlt)
theorem own_lc {x y : Int64} (h : x < y) : lcmpW x y < (0 : Int32) := by rw [lcW]; exact (lc_lt x y).mpr h
theorem own_lc' {x y : Int64} (h : ¬ x < y) : ¬ lcmpW x y < (0 : Int32) := by rw [lcW]; exact fun q => h ((lc_lt x y).mp q)

theorem d1_15 : decode prog_28_method_4_code 15 = .ok (.iload 5, 2) := by decide +kernel
theorem d1_17 : decode prog_28_method_4_code 17 = .ok (.iload 4, 2) := by decide +kernel
theorem d1_19 : decode prog_28_method_4_code 19 = .ok (.if_icmp .ge 28, 3) := by decide +kernel
theorem d1_22 : decode prog_28_method_4_code 22 = .ok (.aload_n 3, 1) := by decide +kernel
theorem d1_23 : decode prog_28_method_4_code 23 = .ok (.iload 5, 2) := by decide +kernel
theorem d1_25 : decode prog_28_method_4_code 25 = .ok (.aaload, 1) := by decide +kernel
theorem d1_26 : decode prog_28_method_4_code 26 = .ok (.astore 6, 2) := by decide +kernel
theorem d1_28 : decode prog_28_method_4_code 28 = .ok (.lload_n 0, 1) := by decide +kernel
theorem d1_29 : decode prog_28_method_4_code 29 = .ok (.aload 6, 2) := by decide +kernel
theorem d1_31 : decode prog_28_method_4_code 31 = .ok (.getfield 39, 3) := by decide +kernel
theorem d1_34 : decode prog_28_method_4_code 34 = .ok (.lcmp, 1) := by decide +kernel
theorem d1_35 : decode prog_28_method_4_code 35 = .ok (.ifCond .lt 6, 3) := by decide +kernel
theorem d1_38 : decode prog_28_method_4_code 38 = .ok (.aload 6, 2) := by decide +kernel
theorem d1_40 : decode prog_28_method_4_code 40 = .ok (.astore_n 2, 1) := by decide +kernel
theorem d1_41 : decode prog_28_method_4_code 41 = .ok (.iinc 5 1, 3) := by decide +kernel
theorem d1_44 : decode prog_28_method_4_code 44 = .ok (.goto (-29), 3) := by decide +kernel
theorem os1_26_tn_y {z0 : Value} {s2 : Slot} {z3 : Value} {z4 : Value} {z5 : Value} {s6 : Slot} {v : Addr} (h : One s6) : storeLocals #[.val z0, .second, s2, .val z3, .val z4, .val z5, s6] 6 (.ref v) = some #[.val z0, .second, s2, .val z3, .val z4, .val z5, .val (.ref v)] := by
  rcases h with rfl | ⟨w, rfl, hw⟩
  · rfl
  · cases w <;> first | rfl | (simp [Value.category] at hw)
theorem os1_40_tn_y {z0 : Value} {s2 : Slot} {z3 : Value} {z4 : Value} {z5 : Value} {z6 : Value} {v : Addr} (h : One s2) : storeLocals #[.val z0, .second, s2, .val z3, .val z4, .val z5, .val z6] 2 (.ref v) = some #[.val z0, .second, .val (.ref v), .val z3, .val z4, .val z5, .val z6] := by
  rcases h with rfl | ⟨w, rfl, hw⟩
  · rfl
  · cases w <;> first | rfl | (simp [Value.category] at hw)
set_option maxRecDepth 65536 in
set_option maxHeartbeats 40000000 in
theorem tn_y {p : Program} {l : Launch} {e : Env} {R : Room} {s : State} {m : MethodId} {args : Array Value} {below : List Frame} {meth : Method} {c : Code} {T0 : State} {locs : List Loc} {cells slots : Nat} {Z : State} {a0 : Array Value} {h0 : Heap} (j0 : Int64) (s2 : Slot) (o3 : Addr) (i4 : Int32) (i5 : Int32) (s6 : Slot) (w2 : Addr) (cl_o3 : Cell) (w3 : Int64)
    (X0 : Stand p l e R s m args below meth c T0 locs cells slots) (hx : p.tables.exec = Jvm.exec) (hZ : Z.Warmed39 s.vm) (hw : ∀ d ∈ tables_1, d.before a0 Z = true) (hby : c.code = prog_28_method_4_code) (hml : c.maxLocals = 7) (hown : s.vm.findClass "com/example/advent_ledger/adventledger/Promotion$Badge" = some m.cls) (e0 : T0.heap = h0) (Ar_o3 : Arr Z h0 o3 cl_o3 (.object "com/example/advent_ledger/adventledger/Promotion$Badge")) (hin25 : ¬ (i5 < 0 ∨ cl_o3.slots.size ≤ (i5).toNatClampNeg)) (hat25 : cl_o3.slots[(i5).toNatClampNeg]? = some (.ref w2)) (hs6 : One s6) (F_minimumBenefit_w2 : Fld Z h0 w2 "com/example/advent_ledger/adventledger/Promotion$Badge" "minimumBenefit" "J" (.long w3)) (hs2 : One s2) (hc19 : i5 < i4) (hc35 : ¬ ((lcmpW j0 w3) < (0 : Int32))) :
    ∃ (T' : State), Stand p l e R s m args below meth c T' locs cells slots ∧ T'.heap = h0 ∧
      ∀ target, Steps p.tables e below (T'.setTop (mkF m 15 #[.val (.long j0), .second, .val (.ref w2), .val (.ref o3), .val (.int i4), .val (.int (i5 + (1 : Int32))), .val (.ref w2)] [])) target → Steps p.tables e below (T0.setTop (mkF m 15 #[.val (.long j0), .second, s2, .val (.ref o3), .val (.int i4), .val (.int i5), s6] [])) target := by
  obtain ⟨T4, X4, e4, st4⟩ := getF X0 hx hZ hown (host := "") (Or.inl (hw _ (List.mem_of_getElem? (i := 10) rfl))) Via.refl e0 F_minimumBenefit_w2 (g := (mkF m 31 #[.val (.long j0), .second, s2, .val (.ref o3), .val (.int i4), .val (.int i5), .val (.ref w2)] [(.ref w2), (.long j0)])) rfl rfl (hb hby d1_31)
  refine ⟨T4, X4, e4, fun target kt => ?_⟩
  show Steps p.tables e below (T0.setTop (mkF m 15 #[.val (.long j0), .second, s2, .val (.ref o3), .val (.int i4), .val (.int i5), s6] [])) _
  refine XS.iload X0.here hx rfl (hb hby d1_15) rfl ?_
  show Steps p.tables e below (T0.setTop (mkF m 17 #[.val (.long j0), .second, s2, .val (.ref o3), .val (.int i4), .val (.int i5), s6] [(.int i5)])) _
  refine XS.iload X0.here hx rfl (hb hby d1_17) rfl ?_
  show Steps p.tables e below (T0.setTop (mkF m 19 #[.val (.long j0), .second, s2, .val (.ref o3), .val (.int i4), .val (.int i5), s6] [(.int i4), (.int i5)])) _
  refine XS.icmpNo X0.here hx rfl (hb hby d1_19) rfl (tlt hc19).2.1 ?_
  show Steps p.tables e below (T0.setTop (mkF m 22 #[.val (.long j0), .second, s2, .val (.ref o3), .val (.int i4), .val (.int i5), s6] [])) _
  refine XS.aloadN X0.here hx rfl (hb hby d1_22) rfl rfl ?_
  show Steps p.tables e below (T0.setTop (mkF m 23 #[.val (.long j0), .second, s2, .val (.ref o3), .val (.int i4), .val (.int i5), s6] [(.ref o3)])) _
  refine XS.iload X0.here hx rfl (hb hby d1_23) rfl ?_
  show Steps p.tables e below (T0.setTop (mkF m 25 #[.val (.long j0), .second, s2, .val (.ref o3), .val (.int i4), .val (.int i5), s6] [(.int i5), (.ref o3)])) _
  refine X0.aaload hx (j := i5) (v := (.ref w2)) (by rw [e0]; exact Ar_o3.1) (State.isArrayOf_alike hZ.alike Ar_o3.2.1) rfl Ar_o3.2.2 hin25 hat25 (g := (mkF m 25 #[.val (.long j0), .second, s2, .val (.ref o3), .val (.int i4), .val (.int i5), s6] [(.int i5), (.ref o3)])) rfl rfl (hb hby d1_25) _ ?_
  show Steps p.tables e below (T0.setTop (mkF m 26 #[.val (.long j0), .second, s2, .val (.ref o3), .val (.int i4), .val (.int i5), s6] [(.ref w2)])) _
  refine XS.astore X0.here hx rfl (hb hby d1_26) rfl rfl (l' := #[.val (.long j0), .second, s2, .val (.ref o3), .val (.int i4), .val (.int i5), .val (.ref w2)]) (os1_26_tn_y hs6) ?_
  show Steps p.tables e below (T0.setTop (mkF m 28 #[.val (.long j0), .second, s2, .val (.ref o3), .val (.int i4), .val (.int i5), .val (.ref w2)] [])) _
  refine XS.lloadN X0.here hx rfl (hb hby d1_28) rfl ?_
  show Steps p.tables e below (T0.setTop (mkF m 29 #[.val (.long j0), .second, s2, .val (.ref o3), .val (.int i4), .val (.int i5), .val (.ref w2)] [(.long j0)])) _
  refine XS.aload X0.here hx rfl (hb hby d1_29) rfl rfl ?_
  show Steps p.tables e below (T0.setTop (mkF m 31 #[.val (.long j0), .second, s2, .val (.ref o3), .val (.int i4), .val (.int i5), .val (.ref w2)] [(.ref w2), (.long j0)])) _
  refine st4 _ ?_
  show Steps p.tables e below (T4.setTop (mkF m 34 #[.val (.long j0), .second, s2, .val (.ref o3), .val (.int i4), .val (.int i5), .val (.ref w2)] [(.long w3), (.long j0)])) _
  refine XS.lcmp X4.here hx rfl (hb hby d1_34) rfl ?_
  show Steps p.tables e below (T4.setTop (mkF m 35 #[.val (.long j0), .second, s2, .val (.ref o3), .val (.int i4), .val (.int i5), .val (.ref w2)] [(.int (lcmpW j0 w3))])) _
  refine XS.ifNo X4.here hx rfl (hb hby d1_35) rfl ((if0 _ _).trans (flt hc35).1) ?_
  show Steps p.tables e below (T4.setTop (mkF m 38 #[.val (.long j0), .second, s2, .val (.ref o3), .val (.int i4), .val (.int i5), .val (.ref w2)] [])) _
  refine XS.aload X4.here hx rfl (hb hby d1_38) rfl rfl ?_
  show Steps p.tables e below (T4.setTop (mkF m 40 #[.val (.long j0), .second, s2, .val (.ref o3), .val (.int i4), .val (.int i5), .val (.ref w2)] [(.ref w2)])) _
  refine XS.astoreN X4.here hx rfl (hb hby d1_40) rfl rfl (l' := #[.val (.long j0), .second, .val (.ref w2), .val (.ref o3), .val (.int i4), .val (.int i5), .val (.ref w2)]) (os1_40_tn_y hs2) ?_
  show Steps p.tables e below (T4.setTop (mkF m 41 #[.val (.long j0), .second, .val (.ref w2), .val (.ref o3), .val (.int i4), .val (.int i5), .val (.ref w2)] [])) _
  refine XS.iinc X4.here hx rfl (hb hby d1_41) rfl (l' := #[.val (.long j0), .second, .val (.ref w2), .val (.ref o3), .val (.int i4), .val (.int (i5 + (1 : Int32))), .val (.ref w2)]) rfl ?_
  show Steps p.tables e below (T4.setTop (mkF m 44 #[.val (.long j0), .second, .val (.ref w2), .val (.ref o3), .val (.int i4), .val (.int (i5 + (1 : Int32))), .val (.ref w2)] [])) _
  refine XS.goto X4.here hx rfl (pc0 := 44) (pc' := 15) rfl (hb hby d1_44) (by decide) (by decide) ?_
  exact kt

theorem os1_26_tn_n {z0 : Value} {s2 : Slot} {z3 : Value} {z4 : Value} {z5 : Value} {s6 : Slot} {v : Addr} (h : One s6) : storeLocals #[.val z0, .second, s2, .val z3, .val z4, .val z5, s6] 6 (.ref v) = some #[.val z0, .second, s2, .val z3, .val z4, .val z5, .val (.ref v)] := by
  rcases h with rfl | ⟨w, rfl, hw⟩
  · rfl
  · cases w <;> first | rfl | (simp [Value.category] at hw)
set_option maxRecDepth 65536 in
set_option maxHeartbeats 40000000 in
theorem tn_n {p : Program} {l : Launch} {e : Env} {R : Room} {s : State} {m : MethodId} {args : Array Value} {below : List Frame} {meth : Method} {c : Code} {T0 : State} {locs : List Loc} {cells slots : Nat} {Z : State} {a0 : Array Value} {h0 : Heap} (j0 : Int64) (s2 : Slot) (o3 : Addr) (i4 : Int32) (i5 : Int32) (s6 : Slot) (w2 : Addr) (cl_o3 : Cell) (w3 : Int64)
    (X0 : Stand p l e R s m args below meth c T0 locs cells slots) (hx : p.tables.exec = Jvm.exec) (hZ : Z.Warmed39 s.vm) (hw : ∀ d ∈ tables_1, d.before a0 Z = true) (hby : c.code = prog_28_method_4_code) (hml : c.maxLocals = 7) (hown : s.vm.findClass "com/example/advent_ledger/adventledger/Promotion$Badge" = some m.cls) (e0 : T0.heap = h0) (Ar_o3 : Arr Z h0 o3 cl_o3 (.object "com/example/advent_ledger/adventledger/Promotion$Badge")) (hin25 : ¬ (i5 < 0 ∨ cl_o3.slots.size ≤ (i5).toNatClampNeg)) (hat25 : cl_o3.slots[(i5).toNatClampNeg]? = some (.ref w2)) (hs6 : One s6) (F_minimumBenefit_w2 : Fld Z h0 w2 "com/example/advent_ledger/adventledger/Promotion$Badge" "minimumBenefit" "J" (.long w3)) (hc19 : i5 < i4) (hc35 : (lcmpW j0 w3) < (0 : Int32)) :
    ∃ (T' : State), Stand p l e R s m args below meth c T' locs cells slots ∧ T'.heap = h0 ∧
      ∀ target, Steps p.tables e below (T'.setTop (mkF m 15 #[.val (.long j0), .second, s2, .val (.ref o3), .val (.int i4), .val (.int (i5 + (1 : Int32))), .val (.ref w2)] [])) target → Steps p.tables e below (T0.setTop (mkF m 15 #[.val (.long j0), .second, s2, .val (.ref o3), .val (.int i4), .val (.int i5), s6] [])) target := by
  obtain ⟨T4, X4, e4, st4⟩ := getF X0 hx hZ hown (host := "") (Or.inl (hw _ (List.mem_of_getElem? (i := 10) rfl))) Via.refl e0 F_minimumBenefit_w2 (g := (mkF m 31 #[.val (.long j0), .second, s2, .val (.ref o3), .val (.int i4), .val (.int i5), .val (.ref w2)] [(.ref w2), (.long j0)])) rfl rfl (hb hby d1_31)
  refine ⟨T4, X4, e4, fun target kt => ?_⟩
  show Steps p.tables e below (T0.setTop (mkF m 15 #[.val (.long j0), .second, s2, .val (.ref o3), .val (.int i4), .val (.int i5), s6] [])) _
  refine XS.iload X0.here hx rfl (hb hby d1_15) rfl ?_
  show Steps p.tables e below (T0.setTop (mkF m 17 #[.val (.long j0), .second, s2, .val (.ref o3), .val (.int i4), .val (.int i5), s6] [(.int i5)])) _
  refine XS.iload X0.here hx rfl (hb hby d1_17) rfl ?_
  show Steps p.tables e below (T0.setTop (mkF m 19 #[.val (.long j0), .second, s2, .val (.ref o3), .val (.int i4), .val (.int i5), s6] [(.int i4), (.int i5)])) _
  refine XS.icmpNo X0.here hx rfl (hb hby d1_19) rfl (tlt hc19).2.1 ?_
  show Steps p.tables e below (T0.setTop (mkF m 22 #[.val (.long j0), .second, s2, .val (.ref o3), .val (.int i4), .val (.int i5), s6] [])) _
  refine XS.aloadN X0.here hx rfl (hb hby d1_22) rfl rfl ?_
  show Steps p.tables e below (T0.setTop (mkF m 23 #[.val (.long j0), .second, s2, .val (.ref o3), .val (.int i4), .val (.int i5), s6] [(.ref o3)])) _
  refine XS.iload X0.here hx rfl (hb hby d1_23) rfl ?_
  show Steps p.tables e below (T0.setTop (mkF m 25 #[.val (.long j0), .second, s2, .val (.ref o3), .val (.int i4), .val (.int i5), s6] [(.int i5), (.ref o3)])) _
  refine X0.aaload hx (j := i5) (v := (.ref w2)) (by rw [e0]; exact Ar_o3.1) (State.isArrayOf_alike hZ.alike Ar_o3.2.1) rfl Ar_o3.2.2 hin25 hat25 (g := (mkF m 25 #[.val (.long j0), .second, s2, .val (.ref o3), .val (.int i4), .val (.int i5), s6] [(.int i5), (.ref o3)])) rfl rfl (hb hby d1_25) _ ?_
  show Steps p.tables e below (T0.setTop (mkF m 26 #[.val (.long j0), .second, s2, .val (.ref o3), .val (.int i4), .val (.int i5), s6] [(.ref w2)])) _
  refine XS.astore X0.here hx rfl (hb hby d1_26) rfl rfl (l' := #[.val (.long j0), .second, s2, .val (.ref o3), .val (.int i4), .val (.int i5), .val (.ref w2)]) (os1_26_tn_n hs6) ?_
  show Steps p.tables e below (T0.setTop (mkF m 28 #[.val (.long j0), .second, s2, .val (.ref o3), .val (.int i4), .val (.int i5), .val (.ref w2)] [])) _
  refine XS.lloadN X0.here hx rfl (hb hby d1_28) rfl ?_
  show Steps p.tables e below (T0.setTop (mkF m 29 #[.val (.long j0), .second, s2, .val (.ref o3), .val (.int i4), .val (.int i5), .val (.ref w2)] [(.long j0)])) _
  refine XS.aload X0.here hx rfl (hb hby d1_29) rfl rfl ?_
  show Steps p.tables e below (T0.setTop (mkF m 31 #[.val (.long j0), .second, s2, .val (.ref o3), .val (.int i4), .val (.int i5), .val (.ref w2)] [(.ref w2), (.long j0)])) _
  refine st4 _ ?_
  show Steps p.tables e below (T4.setTop (mkF m 34 #[.val (.long j0), .second, s2, .val (.ref o3), .val (.int i4), .val (.int i5), .val (.ref w2)] [(.long w3), (.long j0)])) _
  refine XS.lcmp X4.here hx rfl (hb hby d1_34) rfl ?_
  show Steps p.tables e below (T4.setTop (mkF m 35 #[.val (.long j0), .second, s2, .val (.ref o3), .val (.int i4), .val (.int i5), .val (.ref w2)] [(.int (lcmpW j0 w3))])) _
  refine XS.ifYes X4.here hx rfl (pc0 := 35) (pc' := 41) rfl (hb hby d1_35) rfl ((if0 _ _).trans (tlt hc35).1) (by decide) (by decide) ?_
  show Steps p.tables e below (T4.setTop (mkF m 41 #[.val (.long j0), .second, s2, .val (.ref o3), .val (.int i4), .val (.int i5), .val (.ref w2)] [])) _
  refine XS.iinc X4.here hx rfl (hb hby d1_41) rfl (l' := #[.val (.long j0), .second, s2, .val (.ref o3), .val (.int i4), .val (.int (i5 + (1 : Int32))), .val (.ref w2)]) rfl ?_
  show Steps p.tables e below (T4.setTop (mkF m 44 #[.val (.long j0), .second, s2, .val (.ref o3), .val (.int i4), .val (.int (i5 + (1 : Int32))), .val (.ref w2)] [])) _
  refine XS.goto X4.here hx rfl (pc0 := 44) (pc' := 15) rfl (hb hby d1_44) (by decide) (by decide) ?_
  exact kt

theorem turn {p : Program} {l : Launch} {e : Env} {R : Room} {s : State} {m : MethodId} {args : Array Value} {below : List Frame} {meth : Method} {c : Code} {T0 : State} {locs : List Loc} {cells slots : Nat} {Z : State} {a0 : Array Value} {h0 : Heap} (j0 : Int64) (o3 : Addr) (i4 : Int32) (i5 : Int32) (s6 : Slot) (w2 : Addr) (cl_o3 : Cell) (w3 : Int64) (o2 : Addr) (n : Nat) (X0 : Stand p l e R s m args below meth c T0 locs cells slots) (hx : p.tables.exec = Jvm.exec) (hZ : Z.Warmed39 s.vm) (hw : ∀ d ∈ tables_1, d.before a0 Z = true) (hby : c.code = prog_28_method_4_code) (hml : c.maxLocals = 7) (hown : s.vm.findClass "com/example/advent_ledger/adventledger/Promotion$Badge" = some m.cls) (e0 : T0.heap = h0) (Ar_o3 : Arr Z h0 o3 cl_o3 (.object "com/example/advent_ledger/adventledger/Promotion$Badge")) (hs6 : One s6) (F_minimumBenefit_w2 : Fld Z h0 w2 "com/example/advent_ledger/adventledger/Promotion$Badge" "minimumBenefit" "J" (.long w3)) (hc19 : i5 < i4) (hi : i5.toNatClampNeg = n) (hneg : ¬ i5 < 0) (hlt : n < cl_o3.slots.size) (hat : cl_o3.slots[n]? = some (.ref w2)) :
    ∃ (T' : State), Stand p l e R s m args below meth c T' locs cells slots ∧ T'.heap = h0 ∧
      ∀ target, Steps p.tables e below (T'.setTop (mkF m 15 #[.val (.long j0), .second, .val (.ref (sel j0 w3 w2 o2)), .val (.ref o3), .val (.int i4), .val (.int (i5 + (1 : Int32))), .val (.ref w2)] [])) target → Steps p.tables e below (T0.setTop (mkF m 15 #[.val (.long j0), .second, .val (.ref o2), .val (.ref o3), .val (.int i4), .val (.int i5), s6] [])) target := by
  by_cases hl : lcmpW j0 w3 < (0 : Int32)
  · rw [show sel j0 w3 w2 o2 = o2 from if_pos hl]; exact tn_n j0 (.val (.ref o2)) o3 i4 i5 s6 w2 cl_o3 w3 X0 hx hZ hw hby hml hown e0 Ar_o3 (own_in hi hneg hlt) (by rw [hi]; exact hat) hs6 F_minimumBenefit_w2 hc19 hl
  · rw [show sel j0 w3 w2 o2 = w2 from if_neg hl]; exact tn_y j0 (.val (.ref o2)) o3 i4 i5 s6 w2 cl_o3 w3 X0 hx hZ hw hby hml hown e0 Ar_o3 (own_in hi hneg hlt) (by rw [hi]; exact hat) hs6 F_minimumBenefit_w2 (One.val rfl) hc19 hl

theorem d1_0 : decode prog_28_method_4_code 0 = .ok (.getstatic 3, 3) := by decide +kernel
theorem d1_3 : decode prog_28_method_4_code 3 = .ok (.astore_n 2, 1) := by decide +kernel
theorem d1_4 : decode prog_28_method_4_code 4 = .ok (.getstatic 43, 3) := by decide +kernel
theorem d1_7 : decode prog_28_method_4_code 7 = .ok (.astore_n 3, 1) := by decide +kernel
theorem d1_8 : decode prog_28_method_4_code 8 = .ok (.aload_n 3, 1) := by decide +kernel
theorem d1_9 : decode prog_28_method_4_code 9 = .ok (.arraylength, 1) := by decide +kernel
theorem d1_10 : decode prog_28_method_4_code 10 = .ok (.istore 4, 2) := by decide +kernel
theorem d1_12 : decode prog_28_method_4_code 12 = .ok (.iconst 0, 1) := by decide +kernel
theorem d1_13 : decode prog_28_method_4_code 13 = .ok (.istore 5, 2) := by decide +kernel
theorem d1_47 : decode prog_28_method_4_code 47 = .ok (.aload_n 2, 1) := by decide +kernel
theorem d1_48 : decode prog_28_method_4_code 48 = .ok (.areturn, 1) := by decide +kernel
theorem pn_1 : plainName "com/example/advent_ledger/adventledger/Promotion$Badge" = true := by first | (simp [plainName, overriddenIn]; done) | decide +kernel
theorem ef_1 (m : MethodId) (x0 : Int64) : entryFrame m #[(.long x0)] 7 = mkF m 0 #[.val (.long x0), .second, .unset, .unset, .unset, .unset, .unset] [] := by first | (simp [entryFrame, mkF, argsToLocals, Value.category]; done) | rfl
set_option maxRecDepth 65536 in
set_option maxHeartbeats 40000000 in
theorem rm1_t (l : Launch) (Z : State) (a0 : Array Value) (hw : ∀ d ∈ tables_1, d.before a0 Z = true) (ws : List Jvm.Cond) (q1 : Int64) (w_NONE : Addr) (w_BADGES : Addr) (w_STAR : Addr) (w_TREE : Addr) (w_SANTA : Addr) (cl_w_BADGES : Cell) (z_w_BADGES : Int32) (h0 : Heap) (n0 : Nat) (Z0 : n0 ≤ h0.size) (S_NONE : Sta Z h0 "com/example/advent_ledger/adventledger/Promotion$Badge" "NONE" "Lcom/example/advent_ledger/adventledger/Promotion$Badge;" (.ref w_NONE)) (S_BADGES : Sta Z h0 "com/example/advent_ledger/adventledger/Promotion$Badge" "BADGES" "[Lcom/example/advent_ledger/adventledger/Promotion$Badge;" (.ref w_BADGES)) (S_STAR : Sta Z h0 "com/example/advent_ledger/adventledger/Promotion$Badge" "STAR" "Lcom/example/advent_ledger/adventledger/Promotion$Badge;" (.ref w_STAR)) (S_TREE : Sta Z h0 "com/example/advent_ledger/adventledger/Promotion$Badge" "TREE" "Lcom/example/advent_ledger/adventledger/Promotion$Badge;" (.ref w_TREE)) (S_SANTA : Sta Z h0 "com/example/advent_ledger/adventledger/Promotion$Badge" "SANTA" "Lcom/example/advent_ledger/adventledger/Promotion$Badge;" (.ref w_SANTA)) (Ar_w_BADGES : Arr Z h0 w_BADGES cl_w_BADGES (.object "com/example/advent_ledger/adventledger/Promotion$Badge")) (hz : z_w_BADGES = (4 : Int32)) (hsz : cl_w_BADGES.slots.size = 4) (hat_0 : cl_w_BADGES.slots[0]? = some (.ref w_NONE)) (hat_1 : cl_w_BADGES.slots[1]? = some (.ref w_STAR)) (hat_2 : cl_w_BADGES.slots[2]? = some (.ref w_TREE)) (hat_3 : cl_w_BADGES.slots[3]? = some (.ref w_SANTA)) (F_NONE : Fld Z h0 w_NONE "com/example/advent_ledger/adventledger/Promotion$Badge" "minimumBenefit" "J" (.long (0 : Int64))) (F_STAR : Fld Z h0 w_STAR "com/example/advent_ledger/adventledger/Promotion$Badge" "minimumBenefit" "J" (.long (5000 : Int64))) (F_TREE : Fld Z h0 w_TREE "com/example/advent_ledger/adventledger/Promotion$Badge" "minimumBenefit" "J" (.long (10000 : Int64))) (F_SANTA : Fld Z h0 w_SANTA "com/example/advent_ledger/adventledger/Promotion$Badge" "minimumBenefit" "J" (.long (20000 : Int64))) (S_w_BADGES : cl_w_BADGES.slots.size = z_w_BADGES.toNatClampNeg) (N_w_BADGES : ¬ z_w_BADGES < 0) (hc19 : ¬ ((((((0 : Int32) + (1 : Int32)) + (1 : Int32)) + (1 : Int32)) + (1 : Int32)) < z_w_BADGES)) :
    MetFree l (⟨"com/example/advent_ledger/adventledger/Promotion$Badge", "earnedBy", "(J)Lcom/example/advent_ledger/adventledger/Promotion$Badge;"⟩ : MethodName) (head1 (Jvm.Cond.code (⟨"com/example/advent_ledger/adventledger/Promotion$Badge", "earnedBy", "(J)Lcom/example/advent_ledger/adventledger/Promotion$Badge;"⟩ : MethodName) prog_28_method_4_code 7 (some (.object "com/example/advent_ledger/adventledger/Promotion$Badge")) :: ws) ({ frames := 0, cells := 0, slots := 0, locals := 0 } : Room)) (fun a U => a = #[(.long q1)] ∧ Z.Warmed39 U.vm ∧ U.heap = h0) (fun _ _ _ _ _ => True) (fun _ U o U' => ∃ v L, o = .returned v ∧ QR (some (.ref (sel q1 (20000 : Int64) w_SANTA (sel q1 (10000 : Int64) w_TREE (sel q1 (5000 : Int64) w_STAR (sel q1 (0 : Int64) w_NONE w_NONE)))))) h0 n0 v U'.heap L ∧ FrameEnd U o U' L ({ frames := 0, cells := 0, slots := 0, locals := 0 } : Room).cells ({ frames := 0, cells := 0, slots := 0, locals := 0 } : Room).slots) := by
  refine MetFree.of_bodySF (plainFor_of_name pn_1) hisR ?_
  intro p e s m args below meth c s₁ Bd hml0 hP hK
  obtain ⟨rfl, hZ, hh⟩ := hP
  have hx := Bd.exec
  have hby := Bd.bytes
  have hml : c.maxLocals = 7 := hml0
  have hown : s.vm.findClass "com/example/advent_ledger/adventledger/Promotion$Badge" = some m.cls := findClass_of_methodNamed Bd.named
  have hnm := (name_of_methodNamed Bd.named Bd.method).1
  have X0 : Stand p l e ({ frames := 0, cells := 0, slots := 0, locals := 0 } : Room) s m #[(.long q1)] below meth c s₁ [] 0 0 := Stand.of_body Bd
  have e0 : s₁.heap = h0 := by rw [← hh, Bd.state]; rfl
  have N0 := Fr.nil n0
  have pre0 : ∀ t, Steps p.tables e below (s₁.setTop (mkF m 0 #[.val (.long q1), .second, .unset, .unset, .unset, .unset, .unset] [])) t → Steps p.tables e below (s₁.setTop (entryFrame m #[(.long q1)] 7)) t := fun t k => castTop (ef_1 m q1) k
  obtain ⟨T2, X2, e2, st2⟩ := getS2 X0 hx hZ hown (host := "") (Or.inl (hw _ (List.mem_of_getElem? (i := 6) rfl))) Via.refl e0 S_NONE (g := (mkF m 0 #[.val (.long q1), .second, .unset, .unset, .unset, .unset, .unset] [])) rfl (hb hby d1_0)
  obtain ⟨T3, X3, e3, st3⟩ := getS2 X2 hx hZ hown (host := "") (Or.inl (hw _ (List.mem_of_getElem? (i := 8) rfl))) Via.refl e2 S_BADGES (g := (mkF m 4 #[.val (.long q1), .second, .val (.ref w_NONE), .unset, .unset, .unset, .unset] [])) rfl (hb hby d1_4)
  obtain ⟨T4, X4, e4, st4⟩ := turn q1 w_BADGES z_w_BADGES (0 : Int32) .unset w_NONE cl_w_BADGES (0 : Int64) w_NONE 0 X3 hx hZ hw hby hml hown e3 Ar_w_BADGES One.u F_NONE (by rw [hz]; decide) (by decide) (by decide) (by rw [hsz]; decide) hat_0
  obtain ⟨T5, X5, e5, st5⟩ := turn q1 w_BADGES z_w_BADGES ((0 : Int32) + (1 : Int32)) (.val (.ref w_NONE)) w_STAR cl_w_BADGES (5000 : Int64) (sel q1 (0 : Int64) w_NONE w_NONE) 1 X4 hx hZ hw hby hml hown e4 Ar_w_BADGES (One.val rfl) F_STAR (by rw [hz]; decide) (by decide) (by decide) (by rw [hsz]; decide) hat_1
  obtain ⟨T6, X6, e6, st6⟩ := turn q1 w_BADGES z_w_BADGES (((0 : Int32) + (1 : Int32)) + (1 : Int32)) (.val (.ref w_STAR)) w_TREE cl_w_BADGES (10000 : Int64) (sel q1 (5000 : Int64) w_STAR (sel q1 (0 : Int64) w_NONE w_NONE)) 2 X5 hx hZ hw hby hml hown e5 Ar_w_BADGES (One.val rfl) F_TREE (by rw [hz]; decide) (by decide) (by decide) (by rw [hsz]; decide) hat_2
  obtain ⟨T7, X7, e7, st7⟩ := turn q1 w_BADGES z_w_BADGES ((((0 : Int32) + (1 : Int32)) + (1 : Int32)) + (1 : Int32)) (.val (.ref w_TREE)) w_SANTA cl_w_BADGES (20000 : Int64) (sel q1 (10000 : Int64) w_TREE (sel q1 (5000 : Int64) w_STAR (sel q1 (0 : Int64) w_NONE w_NONE))) 3 X6 hx hZ hw hby hml hown e6 Ar_w_BADGES (One.val rfl) F_SANTA (by rw [hz]; decide) (by decide) (by decide) (by rw [hsz]; decide) hat_3
  obtain ⟨fs, hr, hrun, hended, hW, hsame⟩ := X7.leave (v := some (.ref (sel q1 (20000 : Int64) w_SANTA (sel q1 (10000 : Int64) w_TREE (sel q1 (5000 : Int64) w_STAR (sel q1 (0 : Int64) w_NONE w_NONE)))))) (fun h => by rw [Bd.returns] at h; cases h)
  refine ⟨_, _, pre0 _ ?_, hrun, hended, _, _, rfl, ?_, ⟨_, rfl⟩, hW, hsame.mono (by decide) (by decide)⟩
  · show Steps p.tables e below (s₁.setTop (mkF m 0 #[.val (.long q1), .second, .unset, .unset, .unset, .unset, .unset] [])) _
    refine st2 _ ?_
    show Steps p.tables e below (T2.setTop (mkF m 3 #[.val (.long q1), .second, .unset, .unset, .unset, .unset, .unset] [(.ref w_NONE)])) _
    refine XS.astoreN X2.here hx rfl (hb hby d1_3) rfl rfl (l' := #[.val (.long q1), .second, .val (.ref w_NONE), .unset, .unset, .unset, .unset]) rfl ?_
    show Steps p.tables e below (T2.setTop (mkF m 4 #[.val (.long q1), .second, .val (.ref w_NONE), .unset, .unset, .unset, .unset] [])) _
    refine st3 _ ?_
    show Steps p.tables e below (T3.setTop (mkF m 7 #[.val (.long q1), .second, .val (.ref w_NONE), .unset, .unset, .unset, .unset] [(.ref w_BADGES)])) _
    refine XS.astoreN X3.here hx rfl (hb hby d1_7) rfl rfl (l' := #[.val (.long q1), .second, .val (.ref w_NONE), .val (.ref w_BADGES), .unset, .unset, .unset]) rfl ?_
    show Steps p.tables e below (T3.setTop (mkF m 8 #[.val (.long q1), .second, .val (.ref w_NONE), .val (.ref w_BADGES), .unset, .unset, .unset] [])) _
    refine XS.aloadN X3.here hx rfl (hb hby d1_8) rfl rfl ?_
    show Steps p.tables e below (T3.setTop (mkF m 9 #[.val (.long q1), .second, .val (.ref w_NONE), .val (.ref w_BADGES), .unset, .unset, .unset] [(.ref w_BADGES)])) _
    refine X3.arraylength hx (by rw [e3]; exact Ar_w_BADGES.1) (State.isArrayOf_alike hZ.alike Ar_w_BADGES.2.1) (g := (mkF m 9 #[.val (.long q1), .second, .val (.ref w_NONE), .val (.ref w_BADGES), .unset, .unset, .unset] [(.ref w_BADGES)])) rfl rfl (hb hby d1_9) _ ?_
    rw [len_of S_w_BADGES N_w_BADGES]
    show Steps p.tables e below (T3.setTop (mkF m 10 #[.val (.long q1), .second, .val (.ref w_NONE), .val (.ref w_BADGES), .unset, .unset, .unset] [(.int z_w_BADGES)])) _
    refine XS.istore X3.here hx rfl (hb hby d1_10) rfl (l' := #[.val (.long q1), .second, .val (.ref w_NONE), .val (.ref w_BADGES), .val (.int z_w_BADGES), .unset, .unset]) rfl ?_
    show Steps p.tables e below (T3.setTop (mkF m 12 #[.val (.long q1), .second, .val (.ref w_NONE), .val (.ref w_BADGES), .val (.int z_w_BADGES), .unset, .unset] [])) _
    refine XS.iconst X3.here hx rfl (hb hby d1_12) ?_
    show Steps p.tables e below (T3.setTop (mkF m 13 #[.val (.long q1), .second, .val (.ref w_NONE), .val (.ref w_BADGES), .val (.int z_w_BADGES), .unset, .unset] [(.int (0 : Int32))])) _
    refine XS.istore X3.here hx rfl (hb hby d1_13) rfl (l' := #[.val (.long q1), .second, .val (.ref w_NONE), .val (.ref w_BADGES), .val (.int z_w_BADGES), .val (.int (0 : Int32)), .unset]) rfl ?_
    show Steps p.tables e below (T3.setTop (mkF m 15 #[.val (.long q1), .second, .val (.ref w_NONE), .val (.ref w_BADGES), .val (.int z_w_BADGES), .val (.int (0 : Int32)), .unset] [])) _
    refine st4 _ ?_
    show Steps p.tables e below (T4.setTop (mkF m 15 #[.val (.long q1), .second, .val (.ref (sel q1 (0 : Int64) w_NONE w_NONE)), .val (.ref w_BADGES), .val (.int z_w_BADGES), .val (.int ((0 : Int32) + (1 : Int32))), .val (.ref w_NONE)] [])) _
    refine st5 _ ?_
    show Steps p.tables e below (T5.setTop (mkF m 15 #[.val (.long q1), .second, .val (.ref (sel q1 (5000 : Int64) w_STAR (sel q1 (0 : Int64) w_NONE w_NONE))), .val (.ref w_BADGES), .val (.int z_w_BADGES), .val (.int (((0 : Int32) + (1 : Int32)) + (1 : Int32))), .val (.ref w_STAR)] [])) _
    refine st6 _ ?_
    show Steps p.tables e below (T6.setTop (mkF m 15 #[.val (.long q1), .second, .val (.ref (sel q1 (10000 : Int64) w_TREE (sel q1 (5000 : Int64) w_STAR (sel q1 (0 : Int64) w_NONE w_NONE)))), .val (.ref w_BADGES), .val (.int z_w_BADGES), .val (.int ((((0 : Int32) + (1 : Int32)) + (1 : Int32)) + (1 : Int32))), .val (.ref w_TREE)] [])) _
    refine st7 _ ?_
    show Steps p.tables e below (T7.setTop (mkF m 15 #[.val (.long q1), .second, .val (.ref (sel q1 (20000 : Int64) w_SANTA (sel q1 (10000 : Int64) w_TREE (sel q1 (5000 : Int64) w_STAR (sel q1 (0 : Int64) w_NONE w_NONE))))), .val (.ref w_BADGES), .val (.int z_w_BADGES), .val (.int (((((0 : Int32) + (1 : Int32)) + (1 : Int32)) + (1 : Int32)) + (1 : Int32))), .val (.ref w_SANTA)] [])) _
    refine XS.iload X7.here hx rfl (hb hby d1_15) rfl ?_
    show Steps p.tables e below (T7.setTop (mkF m 17 #[.val (.long q1), .second, .val (.ref (sel q1 (20000 : Int64) w_SANTA (sel q1 (10000 : Int64) w_TREE (sel q1 (5000 : Int64) w_STAR (sel q1 (0 : Int64) w_NONE w_NONE))))), .val (.ref w_BADGES), .val (.int z_w_BADGES), .val (.int (((((0 : Int32) + (1 : Int32)) + (1 : Int32)) + (1 : Int32)) + (1 : Int32))), .val (.ref w_SANTA)] [(.int (((((0 : Int32) + (1 : Int32)) + (1 : Int32)) + (1 : Int32)) + (1 : Int32)))])) _
    refine XS.iload X7.here hx rfl (hb hby d1_17) rfl ?_
    show Steps p.tables e below (T7.setTop (mkF m 19 #[.val (.long q1), .second, .val (.ref (sel q1 (20000 : Int64) w_SANTA (sel q1 (10000 : Int64) w_TREE (sel q1 (5000 : Int64) w_STAR (sel q1 (0 : Int64) w_NONE w_NONE))))), .val (.ref w_BADGES), .val (.int z_w_BADGES), .val (.int (((((0 : Int32) + (1 : Int32)) + (1 : Int32)) + (1 : Int32)) + (1 : Int32))), .val (.ref w_SANTA)] [(.int z_w_BADGES), (.int (((((0 : Int32) + (1 : Int32)) + (1 : Int32)) + (1 : Int32)) + (1 : Int32)))])) _
    refine XS.icmpYes X7.here hx rfl (pc0 := 19) (pc' := 47) rfl (hb hby d1_19) rfl (flt hc19).2.1 (by decide) (by decide) ?_
    show Steps p.tables e below (T7.setTop (mkF m 47 #[.val (.long q1), .second, .val (.ref (sel q1 (20000 : Int64) w_SANTA (sel q1 (10000 : Int64) w_TREE (sel q1 (5000 : Int64) w_STAR (sel q1 (0 : Int64) w_NONE w_NONE))))), .val (.ref w_BADGES), .val (.int z_w_BADGES), .val (.int (((((0 : Int32) + (1 : Int32)) + (1 : Int32)) + (1 : Int32)) + (1 : Int32))), .val (.ref w_SANTA)] [])) _
    refine XS.aloadN X7.here hx rfl (hb hby d1_47) rfl rfl ?_
    show Steps p.tables e below (T7.setTop (mkF m 48 #[.val (.long q1), .second, .val (.ref (sel q1 (20000 : Int64) w_SANTA (sel q1 (10000 : Int64) w_TREE (sel q1 (5000 : Int64) w_STAR (sel q1 (0 : Int64) w_NONE w_NONE))))), .val (.ref w_BADGES), .val (.int z_w_BADGES), .val (.int (((((0 : Int32) + (1 : Int32)) + (1 : Int32)) + (1 : Int32)) + (1 : Int32))), .val (.ref w_SANTA)] [(.ref (sel q1 (20000 : Int64) w_SANTA (sel q1 (10000 : Int64) w_TREE (sel q1 (5000 : Int64) w_STAR (sel q1 (0 : Int64) w_NONE w_NONE)))))])) _
    jvm_step X7.here [X7.here.top, hx, (hb hby d1_48), X7.method', Bd.returns, Value.isRef, FieldType.isReference]
    first | (intro acts; rw [hr _ acts rfl rfl rfl]) | rw [hr _ _ rfl rfl rfl]
    exact Steps.refl _
  · show QR (some (.ref (sel q1 (20000 : Int64) w_SANTA (sel q1 (10000 : Int64) w_TREE (sel q1 (5000 : Int64) w_STAR (sel q1 (0 : Int64) w_NONE w_NONE)))))) h0 n0 _ T7.heap _
    rw [e7]
    exact ⟨rfl, N0, rfl⟩

set_option maxRecDepth 65536 in
set_option maxHeartbeats 40000000 in
theorem sa_0 {p : Program} {l : Launch} {e : Env} {R : Room} {s : State} {m : MethodId} {args : Array Value} {below : List Frame} {meth : Method} {c : Code} {T0 : State} {locs : List Loc} {cells slots : Nat} {Z : State} {a0 : Array Value} {h0 : Heap} (j0 : Int64) (i2 : Int32)
    (X0 : Stand p l e R s m args below meth c T0 locs cells slots) (hx : p.tables.exec = Jvm.exec) (hZ : Z.Warmed39 s.vm) (hw : ∀ d ∈ tables_1, d.before a0 Z = true) (hby : c.code = code) (hml : c.maxLocals = 10) (hown : s.vm.findClass "com/example/advent_ledger/adventledger/BadgeEarnedByPinLaw" = some m.cls) (e0 : T0.heap = h0) (hc14 : (i2 &&& (7 : Int32)) = (0 : Int32)) :
    ∃ (T' : State), Stand p l e R s m args below meth c T' locs cells slots ∧ T'.heap = h0 ∧
      ∀ target, Steps p.tables e below (T'.setTop (mkF m 125 #[.val (.long j0), .second, .val (.int i2), .val (.int (i2 &&& (7 : Int32))), .val (.long ((((i2.toUInt32 >>> ((3 : Int32) &&& 31).toUInt32).toInt32) &&& (3 : Int32)).toInt64)), .second, .val (.long (((0 : Int64) + ((((i2.toUInt32 >>> ((3 : Int32) &&& 31).toUInt32).toInt32) &&& (3 : Int32)).toInt64)) - (2 : Int64))), .second, .unset, .unset] [])) target → Steps p.tables e below (T0.setTop (mkF m 0 #[.val (.long j0), .second, .val (.int i2), .unset, .unset, .unset, .unset, .unset, .unset, .unset] [])) target := by

  refine ⟨T0, X0, e0, fun target kt => ?_⟩
  show Steps p.tables e below (T0.setTop (mkF m 0 #[.val (.long j0), .second, .val (.int i2), .unset, .unset, .unset, .unset, .unset, .unset, .unset] [])) _
  refine XS.iloadN X0.here hx rfl (hb hby at_0) rfl ?_
  show Steps p.tables e below (T0.setTop (mkF m 1 #[.val (.long j0), .second, .val (.int i2), .unset, .unset, .unset, .unset, .unset, .unset, .unset] [(.int i2)])) _
  refine XS.bipush X0.here hx rfl (hb hby at_1) ?_
  show Steps p.tables e below (T0.setTop (mkF m 3 #[.val (.long j0), .second, .val (.int i2), .unset, .unset, .unset, .unset, .unset, .unset, .unset] [(.int (7 : Int32)), (.int i2)])) _
  refine XS.iand X0.here hx rfl (hb hby at_3) rfl ?_
  show Steps p.tables e below (T0.setTop (mkF m 4 #[.val (.long j0), .second, .val (.int i2), .unset, .unset, .unset, .unset, .unset, .unset, .unset] [(.int (i2 &&& (7 : Int32)))])) _
  refine XS.istoreN X0.here hx rfl (hb hby at_4) rfl (l' := #[.val (.long j0), .second, .val (.int i2), .val (.int (i2 &&& (7 : Int32))), .unset, .unset, .unset, .unset, .unset, .unset]) rfl ?_
  show Steps p.tables e below (T0.setTop (mkF m 5 #[.val (.long j0), .second, .val (.int i2), .val (.int (i2 &&& (7 : Int32))), .unset, .unset, .unset, .unset, .unset, .unset] [])) _
  refine XS.iloadN X0.here hx rfl (hb hby at_5) rfl ?_
  show Steps p.tables e below (T0.setTop (mkF m 6 #[.val (.long j0), .second, .val (.int i2), .val (.int (i2 &&& (7 : Int32))), .unset, .unset, .unset, .unset, .unset, .unset] [(.int i2)])) _
  refine XS.iconst X0.here hx rfl (hb hby at_6) ?_
  show Steps p.tables e below (T0.setTop (mkF m 7 #[.val (.long j0), .second, .val (.int i2), .val (.int (i2 &&& (7 : Int32))), .unset, .unset, .unset, .unset, .unset, .unset] [(.int (3 : Int32)), (.int i2)])) _
  refine XS.iushr X0.here hx rfl (hb hby at_7) rfl ?_
  show Steps p.tables e below (T0.setTop (mkF m 8 #[.val (.long j0), .second, .val (.int i2), .val (.int (i2 &&& (7 : Int32))), .unset, .unset, .unset, .unset, .unset, .unset] [(.int ((i2.toUInt32 >>> ((3 : Int32) &&& 31).toUInt32).toInt32))])) _
  refine XS.iconst X0.here hx rfl (hb hby at_8) ?_
  show Steps p.tables e below (T0.setTop (mkF m 9 #[.val (.long j0), .second, .val (.int i2), .val (.int (i2 &&& (7 : Int32))), .unset, .unset, .unset, .unset, .unset, .unset] [(.int (3 : Int32)), (.int ((i2.toUInt32 >>> ((3 : Int32) &&& 31).toUInt32).toInt32))])) _
  refine XS.iand X0.here hx rfl (hb hby at_9) rfl ?_
  show Steps p.tables e below (T0.setTop (mkF m 10 #[.val (.long j0), .second, .val (.int i2), .val (.int (i2 &&& (7 : Int32))), .unset, .unset, .unset, .unset, .unset, .unset] [(.int (((i2.toUInt32 >>> ((3 : Int32) &&& 31).toUInt32).toInt32) &&& (3 : Int32)))])) _
  refine XS.i2l X0.here hx rfl (hb hby at_10) rfl ?_
  show Steps p.tables e below (T0.setTop (mkF m 11 #[.val (.long j0), .second, .val (.int i2), .val (.int (i2 &&& (7 : Int32))), .unset, .unset, .unset, .unset, .unset, .unset] [(.long ((((i2.toUInt32 >>> ((3 : Int32) &&& 31).toUInt32).toInt32) &&& (3 : Int32)).toInt64))])) _
  refine XS.lstore X0.here hx rfl (hb hby at_11) rfl (l' := #[.val (.long j0), .second, .val (.int i2), .val (.int (i2 &&& (7 : Int32))), .val (.long ((((i2.toUInt32 >>> ((3 : Int32) &&& 31).toUInt32).toInt32) &&& (3 : Int32)).toInt64)), .second, .unset, .unset, .unset, .unset]) rfl ?_
  show Steps p.tables e below (T0.setTop (mkF m 13 #[.val (.long j0), .second, .val (.int i2), .val (.int (i2 &&& (7 : Int32))), .val (.long ((((i2.toUInt32 >>> ((3 : Int32) &&& 31).toUInt32).toInt32) &&& (3 : Int32)).toInt64)), .second, .unset, .unset, .unset, .unset] [])) _
  refine XS.iloadN X0.here hx rfl (hb hby at_13) rfl ?_
  show Steps p.tables e below (T0.setTop (mkF m 14 #[.val (.long j0), .second, .val (.int i2), .val (.int (i2 &&& (7 : Int32))), .val (.long ((((i2.toUInt32 >>> ((3 : Int32) &&& 31).toUInt32).toInt32) &&& (3 : Int32)).toInt64)), .second, .unset, .unset, .unset, .unset] [(.int (i2 &&& (7 : Int32)))])) _
  refine XS.ifNo X0.here hx rfl (hb hby at_14) rfl ((if0 _ _).trans (teq hc14).2) ?_
  show Steps p.tables e below (T0.setTop (mkF m 17 #[.val (.long j0), .second, .val (.int i2), .val (.int (i2 &&& (7 : Int32))), .val (.long ((((i2.toUInt32 >>> ((3 : Int32) &&& 31).toUInt32).toInt32) &&& (3 : Int32)).toInt64)), .second, .unset, .unset, .unset, .unset] [])) _
  refine XS.lconst X0.here hx rfl (hb hby at_17) ?_
  show Steps p.tables e below (T0.setTop (mkF m 18 #[.val (.long j0), .second, .val (.int i2), .val (.int (i2 &&& (7 : Int32))), .val (.long ((((i2.toUInt32 >>> ((3 : Int32) &&& 31).toUInt32).toInt32) &&& (3 : Int32)).toInt64)), .second, .unset, .unset, .unset, .unset] [(.long (0 : Int64))])) _
  refine XS.lload X0.here hx rfl (hb hby at_18) rfl ?_
  show Steps p.tables e below (T0.setTop (mkF m 20 #[.val (.long j0), .second, .val (.int i2), .val (.int (i2 &&& (7 : Int32))), .val (.long ((((i2.toUInt32 >>> ((3 : Int32) &&& 31).toUInt32).toInt32) &&& (3 : Int32)).toInt64)), .second, .unset, .unset, .unset, .unset] [(.long ((((i2.toUInt32 >>> ((3 : Int32) &&& 31).toUInt32).toInt32) &&& (3 : Int32)).toInt64)), (.long (0 : Int64))])) _
  refine XS.ladd X0.here hx rfl (hb hby at_20) rfl ?_
  show Steps p.tables e below (T0.setTop (mkF m 21 #[.val (.long j0), .second, .val (.int i2), .val (.int (i2 &&& (7 : Int32))), .val (.long ((((i2.toUInt32 >>> ((3 : Int32) &&& 31).toUInt32).toInt32) &&& (3 : Int32)).toInt64)), .second, .unset, .unset, .unset, .unset] [(.long ((0 : Int64) + ((((i2.toUInt32 >>> ((3 : Int32) &&& 31).toUInt32).toInt32) &&& (3 : Int32)).toInt64)))])) _
  refine X0.ldc2Long hx hown (mvT hZ (hw _ (List.mem_of_getElem? (i := 1) rfl))) (g := (mkF m 21 #[.val (.long j0), .second, .val (.int i2), .val (.int (i2 &&& (7 : Int32))), .val (.long ((((i2.toUInt32 >>> ((3 : Int32) &&& 31).toUInt32).toInt32) &&& (3 : Int32)).toInt64)), .second, .unset, .unset, .unset, .unset] [(.long ((0 : Int64) + ((((i2.toUInt32 >>> ((3 : Int32) &&& 31).toUInt32).toInt32) &&& (3 : Int32)).toInt64)))])) rfl (hb hby at_21) _ ?_
  show Steps p.tables e below (T0.setTop (mkF m 24 #[.val (.long j0), .second, .val (.int i2), .val (.int (i2 &&& (7 : Int32))), .val (.long ((((i2.toUInt32 >>> ((3 : Int32) &&& 31).toUInt32).toInt32) &&& (3 : Int32)).toInt64)), .second, .unset, .unset, .unset, .unset] [(.long (2 : Int64)), (.long ((0 : Int64) + ((((i2.toUInt32 >>> ((3 : Int32) &&& 31).toUInt32).toInt32) &&& (3 : Int32)).toInt64)))])) _
  refine XS.lsub X0.here hx rfl (hb hby at_24) rfl ?_
  show Steps p.tables e below (T0.setTop (mkF m 25 #[.val (.long j0), .second, .val (.int i2), .val (.int (i2 &&& (7 : Int32))), .val (.long ((((i2.toUInt32 >>> ((3 : Int32) &&& 31).toUInt32).toInt32) &&& (3 : Int32)).toInt64)), .second, .unset, .unset, .unset, .unset] [(.long (((0 : Int64) + ((((i2.toUInt32 >>> ((3 : Int32) &&& 31).toUInt32).toInt32) &&& (3 : Int32)).toInt64)) - (2 : Int64)))])) _
  refine XS.lstore X0.here hx rfl (hb hby at_25) rfl (l' := #[.val (.long j0), .second, .val (.int i2), .val (.int (i2 &&& (7 : Int32))), .val (.long ((((i2.toUInt32 >>> ((3 : Int32) &&& 31).toUInt32).toInt32) &&& (3 : Int32)).toInt64)), .second, .val (.long (((0 : Int64) + ((((i2.toUInt32 >>> ((3 : Int32) &&& 31).toUInt32).toInt32) &&& (3 : Int32)).toInt64)) - (2 : Int64))), .second, .unset, .unset]) rfl ?_
  show Steps p.tables e below (T0.setTop (mkF m 27 #[.val (.long j0), .second, .val (.int i2), .val (.int (i2 &&& (7 : Int32))), .val (.long ((((i2.toUInt32 >>> ((3 : Int32) &&& 31).toUInt32).toInt32) &&& (3 : Int32)).toInt64)), .second, .val (.long (((0 : Int64) + ((((i2.toUInt32 >>> ((3 : Int32) &&& 31).toUInt32).toInt32) &&& (3 : Int32)).toInt64)) - (2 : Int64))), .second, .unset, .unset] [])) _
  refine XS.goto X0.here hx rfl (pc0 := 27) (pc' := 125) rfl (hb hby at_27) (by decide) (by decide) ?_
  exact kt

set_option maxRecDepth 65536 in
set_option maxHeartbeats 40000000 in
theorem sa_1 {p : Program} {l : Launch} {e : Env} {R : Room} {s : State} {m : MethodId} {args : Array Value} {below : List Frame} {meth : Method} {c : Code} {T0 : State} {locs : List Loc} {cells slots : Nat} {Z : State} {a0 : Array Value} {h0 : Heap} (j0 : Int64) (i2 : Int32)
    (X0 : Stand p l e R s m args below meth c T0 locs cells slots) (hx : p.tables.exec = Jvm.exec) (hZ : Z.Warmed39 s.vm) (hw : ∀ d ∈ tables_1, d.before a0 Z = true) (hby : c.code = code) (hml : c.maxLocals = 10) (hown : s.vm.findClass "com/example/advent_ledger/adventledger/BadgeEarnedByPinLaw" = some m.cls) (e0 : T0.heap = h0) (hc14 : ¬ ((i2 &&& (7 : Int32)) = (0 : Int32))) (hc32 : (i2 &&& (7 : Int32)) = (1 : Int32)) :
    ∃ (T' : State), Stand p l e R s m args below meth c T' locs cells slots ∧ T'.heap = h0 ∧
      ∀ target, Steps p.tables e below (T'.setTop (mkF m 125 #[.val (.long j0), .second, .val (.int i2), .val (.int (i2 &&& (7 : Int32))), .val (.long ((((i2.toUInt32 >>> ((3 : Int32) &&& 31).toUInt32).toInt32) &&& (3 : Int32)).toInt64)), .second, .val (.long (((5000 : Int64) + ((((i2.toUInt32 >>> ((3 : Int32) &&& 31).toUInt32).toInt32) &&& (3 : Int32)).toInt64)) - (2 : Int64))), .second, .unset, .unset] [])) target → Steps p.tables e below (T0.setTop (mkF m 0 #[.val (.long j0), .second, .val (.int i2), .unset, .unset, .unset, .unset, .unset, .unset, .unset] [])) target := by

  refine ⟨T0, X0, e0, fun target kt => ?_⟩
  show Steps p.tables e below (T0.setTop (mkF m 0 #[.val (.long j0), .second, .val (.int i2), .unset, .unset, .unset, .unset, .unset, .unset, .unset] [])) _
  refine XS.iloadN X0.here hx rfl (hb hby at_0) rfl ?_
  show Steps p.tables e below (T0.setTop (mkF m 1 #[.val (.long j0), .second, .val (.int i2), .unset, .unset, .unset, .unset, .unset, .unset, .unset] [(.int i2)])) _
  refine XS.bipush X0.here hx rfl (hb hby at_1) ?_
  show Steps p.tables e below (T0.setTop (mkF m 3 #[.val (.long j0), .second, .val (.int i2), .unset, .unset, .unset, .unset, .unset, .unset, .unset] [(.int (7 : Int32)), (.int i2)])) _
  refine XS.iand X0.here hx rfl (hb hby at_3) rfl ?_
  show Steps p.tables e below (T0.setTop (mkF m 4 #[.val (.long j0), .second, .val (.int i2), .unset, .unset, .unset, .unset, .unset, .unset, .unset] [(.int (i2 &&& (7 : Int32)))])) _
  refine XS.istoreN X0.here hx rfl (hb hby at_4) rfl (l' := #[.val (.long j0), .second, .val (.int i2), .val (.int (i2 &&& (7 : Int32))), .unset, .unset, .unset, .unset, .unset, .unset]) rfl ?_
  show Steps p.tables e below (T0.setTop (mkF m 5 #[.val (.long j0), .second, .val (.int i2), .val (.int (i2 &&& (7 : Int32))), .unset, .unset, .unset, .unset, .unset, .unset] [])) _
  refine XS.iloadN X0.here hx rfl (hb hby at_5) rfl ?_
  show Steps p.tables e below (T0.setTop (mkF m 6 #[.val (.long j0), .second, .val (.int i2), .val (.int (i2 &&& (7 : Int32))), .unset, .unset, .unset, .unset, .unset, .unset] [(.int i2)])) _
  refine XS.iconst X0.here hx rfl (hb hby at_6) ?_
  show Steps p.tables e below (T0.setTop (mkF m 7 #[.val (.long j0), .second, .val (.int i2), .val (.int (i2 &&& (7 : Int32))), .unset, .unset, .unset, .unset, .unset, .unset] [(.int (3 : Int32)), (.int i2)])) _
  refine XS.iushr X0.here hx rfl (hb hby at_7) rfl ?_
  show Steps p.tables e below (T0.setTop (mkF m 8 #[.val (.long j0), .second, .val (.int i2), .val (.int (i2 &&& (7 : Int32))), .unset, .unset, .unset, .unset, .unset, .unset] [(.int ((i2.toUInt32 >>> ((3 : Int32) &&& 31).toUInt32).toInt32))])) _
  refine XS.iconst X0.here hx rfl (hb hby at_8) ?_
  show Steps p.tables e below (T0.setTop (mkF m 9 #[.val (.long j0), .second, .val (.int i2), .val (.int (i2 &&& (7 : Int32))), .unset, .unset, .unset, .unset, .unset, .unset] [(.int (3 : Int32)), (.int ((i2.toUInt32 >>> ((3 : Int32) &&& 31).toUInt32).toInt32))])) _
  refine XS.iand X0.here hx rfl (hb hby at_9) rfl ?_
  show Steps p.tables e below (T0.setTop (mkF m 10 #[.val (.long j0), .second, .val (.int i2), .val (.int (i2 &&& (7 : Int32))), .unset, .unset, .unset, .unset, .unset, .unset] [(.int (((i2.toUInt32 >>> ((3 : Int32) &&& 31).toUInt32).toInt32) &&& (3 : Int32)))])) _
  refine XS.i2l X0.here hx rfl (hb hby at_10) rfl ?_
  show Steps p.tables e below (T0.setTop (mkF m 11 #[.val (.long j0), .second, .val (.int i2), .val (.int (i2 &&& (7 : Int32))), .unset, .unset, .unset, .unset, .unset, .unset] [(.long ((((i2.toUInt32 >>> ((3 : Int32) &&& 31).toUInt32).toInt32) &&& (3 : Int32)).toInt64))])) _
  refine XS.lstore X0.here hx rfl (hb hby at_11) rfl (l' := #[.val (.long j0), .second, .val (.int i2), .val (.int (i2 &&& (7 : Int32))), .val (.long ((((i2.toUInt32 >>> ((3 : Int32) &&& 31).toUInt32).toInt32) &&& (3 : Int32)).toInt64)), .second, .unset, .unset, .unset, .unset]) rfl ?_
  show Steps p.tables e below (T0.setTop (mkF m 13 #[.val (.long j0), .second, .val (.int i2), .val (.int (i2 &&& (7 : Int32))), .val (.long ((((i2.toUInt32 >>> ((3 : Int32) &&& 31).toUInt32).toInt32) &&& (3 : Int32)).toInt64)), .second, .unset, .unset, .unset, .unset] [])) _
  refine XS.iloadN X0.here hx rfl (hb hby at_13) rfl ?_
  show Steps p.tables e below (T0.setTop (mkF m 14 #[.val (.long j0), .second, .val (.int i2), .val (.int (i2 &&& (7 : Int32))), .val (.long ((((i2.toUInt32 >>> ((3 : Int32) &&& 31).toUInt32).toInt32) &&& (3 : Int32)).toInt64)), .second, .unset, .unset, .unset, .unset] [(.int (i2 &&& (7 : Int32)))])) _
  refine XS.ifYes X0.here hx rfl (pc0 := 14) (pc' := 30) rfl (hb hby at_14) rfl ((if0 _ _).trans (feq hc14).2) (by decide) (by decide) ?_
  show Steps p.tables e below (T0.setTop (mkF m 30 #[.val (.long j0), .second, .val (.int i2), .val (.int (i2 &&& (7 : Int32))), .val (.long ((((i2.toUInt32 >>> ((3 : Int32) &&& 31).toUInt32).toInt32) &&& (3 : Int32)).toInt64)), .second, .unset, .unset, .unset, .unset] [])) _
  refine XS.iloadN X0.here hx rfl (hb hby at_30) rfl ?_
  show Steps p.tables e below (T0.setTop (mkF m 31 #[.val (.long j0), .second, .val (.int i2), .val (.int (i2 &&& (7 : Int32))), .val (.long ((((i2.toUInt32 >>> ((3 : Int32) &&& 31).toUInt32).toInt32) &&& (3 : Int32)).toInt64)), .second, .unset, .unset, .unset, .unset] [(.int (i2 &&& (7 : Int32)))])) _
  refine XS.iconst X0.here hx rfl (hb hby at_31) ?_
  show Steps p.tables e below (T0.setTop (mkF m 32 #[.val (.long j0), .second, .val (.int i2), .val (.int (i2 &&& (7 : Int32))), .val (.long ((((i2.toUInt32 >>> ((3 : Int32) &&& 31).toUInt32).toInt32) &&& (3 : Int32)).toInt64)), .second, .unset, .unset, .unset, .unset] [(.int (1 : Int32)), (.int (i2 &&& (7 : Int32)))])) _
  refine XS.icmpNo X0.here hx rfl (hb hby at_32) rfl (teq hc32).2 ?_
  show Steps p.tables e below (T0.setTop (mkF m 35 #[.val (.long j0), .second, .val (.int i2), .val (.int (i2 &&& (7 : Int32))), .val (.long ((((i2.toUInt32 >>> ((3 : Int32) &&& 31).toUInt32).toInt32) &&& (3 : Int32)).toInt64)), .second, .unset, .unset, .unset, .unset] [])) _
  refine X0.ldc2Long hx hown (mvT hZ (hw _ (List.mem_of_getElem? (i := 16) rfl))) (g := (mkF m 35 #[.val (.long j0), .second, .val (.int i2), .val (.int (i2 &&& (7 : Int32))), .val (.long ((((i2.toUInt32 >>> ((3 : Int32) &&& 31).toUInt32).toInt32) &&& (3 : Int32)).toInt64)), .second, .unset, .unset, .unset, .unset] [])) rfl (hb hby at_35) _ ?_
  show Steps p.tables e below (T0.setTop (mkF m 38 #[.val (.long j0), .second, .val (.int i2), .val (.int (i2 &&& (7 : Int32))), .val (.long ((((i2.toUInt32 >>> ((3 : Int32) &&& 31).toUInt32).toInt32) &&& (3 : Int32)).toInt64)), .second, .unset, .unset, .unset, .unset] [(.long (5000 : Int64))])) _
  refine XS.lload X0.here hx rfl (hb hby at_38) rfl ?_
  show Steps p.tables e below (T0.setTop (mkF m 40 #[.val (.long j0), .second, .val (.int i2), .val (.int (i2 &&& (7 : Int32))), .val (.long ((((i2.toUInt32 >>> ((3 : Int32) &&& 31).toUInt32).toInt32) &&& (3 : Int32)).toInt64)), .second, .unset, .unset, .unset, .unset] [(.long ((((i2.toUInt32 >>> ((3 : Int32) &&& 31).toUInt32).toInt32) &&& (3 : Int32)).toInt64)), (.long (5000 : Int64))])) _
  refine XS.ladd X0.here hx rfl (hb hby at_40) rfl ?_
  show Steps p.tables e below (T0.setTop (mkF m 41 #[.val (.long j0), .second, .val (.int i2), .val (.int (i2 &&& (7 : Int32))), .val (.long ((((i2.toUInt32 >>> ((3 : Int32) &&& 31).toUInt32).toInt32) &&& (3 : Int32)).toInt64)), .second, .unset, .unset, .unset, .unset] [(.long ((5000 : Int64) + ((((i2.toUInt32 >>> ((3 : Int32) &&& 31).toUInt32).toInt32) &&& (3 : Int32)).toInt64)))])) _
  refine X0.ldc2Long hx hown (mvT hZ (hw _ (List.mem_of_getElem? (i := 1) rfl))) (g := (mkF m 41 #[.val (.long j0), .second, .val (.int i2), .val (.int (i2 &&& (7 : Int32))), .val (.long ((((i2.toUInt32 >>> ((3 : Int32) &&& 31).toUInt32).toInt32) &&& (3 : Int32)).toInt64)), .second, .unset, .unset, .unset, .unset] [(.long ((5000 : Int64) + ((((i2.toUInt32 >>> ((3 : Int32) &&& 31).toUInt32).toInt32) &&& (3 : Int32)).toInt64)))])) rfl (hb hby at_41) _ ?_
  show Steps p.tables e below (T0.setTop (mkF m 44 #[.val (.long j0), .second, .val (.int i2), .val (.int (i2 &&& (7 : Int32))), .val (.long ((((i2.toUInt32 >>> ((3 : Int32) &&& 31).toUInt32).toInt32) &&& (3 : Int32)).toInt64)), .second, .unset, .unset, .unset, .unset] [(.long (2 : Int64)), (.long ((5000 : Int64) + ((((i2.toUInt32 >>> ((3 : Int32) &&& 31).toUInt32).toInt32) &&& (3 : Int32)).toInt64)))])) _
  refine XS.lsub X0.here hx rfl (hb hby at_44) rfl ?_
  show Steps p.tables e below (T0.setTop (mkF m 45 #[.val (.long j0), .second, .val (.int i2), .val (.int (i2 &&& (7 : Int32))), .val (.long ((((i2.toUInt32 >>> ((3 : Int32) &&& 31).toUInt32).toInt32) &&& (3 : Int32)).toInt64)), .second, .unset, .unset, .unset, .unset] [(.long (((5000 : Int64) + ((((i2.toUInt32 >>> ((3 : Int32) &&& 31).toUInt32).toInt32) &&& (3 : Int32)).toInt64)) - (2 : Int64)))])) _
  refine XS.lstore X0.here hx rfl (hb hby at_45) rfl (l' := #[.val (.long j0), .second, .val (.int i2), .val (.int (i2 &&& (7 : Int32))), .val (.long ((((i2.toUInt32 >>> ((3 : Int32) &&& 31).toUInt32).toInt32) &&& (3 : Int32)).toInt64)), .second, .val (.long (((5000 : Int64) + ((((i2.toUInt32 >>> ((3 : Int32) &&& 31).toUInt32).toInt32) &&& (3 : Int32)).toInt64)) - (2 : Int64))), .second, .unset, .unset]) rfl ?_
  show Steps p.tables e below (T0.setTop (mkF m 47 #[.val (.long j0), .second, .val (.int i2), .val (.int (i2 &&& (7 : Int32))), .val (.long ((((i2.toUInt32 >>> ((3 : Int32) &&& 31).toUInt32).toInt32) &&& (3 : Int32)).toInt64)), .second, .val (.long (((5000 : Int64) + ((((i2.toUInt32 >>> ((3 : Int32) &&& 31).toUInt32).toInt32) &&& (3 : Int32)).toInt64)) - (2 : Int64))), .second, .unset, .unset] [])) _
  refine XS.goto X0.here hx rfl (pc0 := 47) (pc' := 125) rfl (hb hby at_47) (by decide) (by decide) ?_
  exact kt

set_option maxRecDepth 65536 in
set_option maxHeartbeats 40000000 in
theorem sa_2 {p : Program} {l : Launch} {e : Env} {R : Room} {s : State} {m : MethodId} {args : Array Value} {below : List Frame} {meth : Method} {c : Code} {T0 : State} {locs : List Loc} {cells slots : Nat} {Z : State} {a0 : Array Value} {h0 : Heap} (j0 : Int64) (i2 : Int32)
    (X0 : Stand p l e R s m args below meth c T0 locs cells slots) (hx : p.tables.exec = Jvm.exec) (hZ : Z.Warmed39 s.vm) (hw : ∀ d ∈ tables_1, d.before a0 Z = true) (hby : c.code = code) (hml : c.maxLocals = 10) (hown : s.vm.findClass "com/example/advent_ledger/adventledger/BadgeEarnedByPinLaw" = some m.cls) (e0 : T0.heap = h0) (hc14 : ¬ ((i2 &&& (7 : Int32)) = (0 : Int32))) (hc32 : ¬ ((i2 &&& (7 : Int32)) = (1 : Int32))) (hc52 : (i2 &&& (7 : Int32)) = (2 : Int32)) :
    ∃ (T' : State), Stand p l e R s m args below meth c T' locs cells slots ∧ T'.heap = h0 ∧
      ∀ target, Steps p.tables e below (T'.setTop (mkF m 125 #[.val (.long j0), .second, .val (.int i2), .val (.int (i2 &&& (7 : Int32))), .val (.long ((((i2.toUInt32 >>> ((3 : Int32) &&& 31).toUInt32).toInt32) &&& (3 : Int32)).toInt64)), .second, .val (.long (((10000 : Int64) + ((((i2.toUInt32 >>> ((3 : Int32) &&& 31).toUInt32).toInt32) &&& (3 : Int32)).toInt64)) - (2 : Int64))), .second, .unset, .unset] [])) target → Steps p.tables e below (T0.setTop (mkF m 0 #[.val (.long j0), .second, .val (.int i2), .unset, .unset, .unset, .unset, .unset, .unset, .unset] [])) target := by

  refine ⟨T0, X0, e0, fun target kt => ?_⟩
  show Steps p.tables e below (T0.setTop (mkF m 0 #[.val (.long j0), .second, .val (.int i2), .unset, .unset, .unset, .unset, .unset, .unset, .unset] [])) _
  refine XS.iloadN X0.here hx rfl (hb hby at_0) rfl ?_
  show Steps p.tables e below (T0.setTop (mkF m 1 #[.val (.long j0), .second, .val (.int i2), .unset, .unset, .unset, .unset, .unset, .unset, .unset] [(.int i2)])) _
  refine XS.bipush X0.here hx rfl (hb hby at_1) ?_
  show Steps p.tables e below (T0.setTop (mkF m 3 #[.val (.long j0), .second, .val (.int i2), .unset, .unset, .unset, .unset, .unset, .unset, .unset] [(.int (7 : Int32)), (.int i2)])) _
  refine XS.iand X0.here hx rfl (hb hby at_3) rfl ?_
  show Steps p.tables e below (T0.setTop (mkF m 4 #[.val (.long j0), .second, .val (.int i2), .unset, .unset, .unset, .unset, .unset, .unset, .unset] [(.int (i2 &&& (7 : Int32)))])) _
  refine XS.istoreN X0.here hx rfl (hb hby at_4) rfl (l' := #[.val (.long j0), .second, .val (.int i2), .val (.int (i2 &&& (7 : Int32))), .unset, .unset, .unset, .unset, .unset, .unset]) rfl ?_
  show Steps p.tables e below (T0.setTop (mkF m 5 #[.val (.long j0), .second, .val (.int i2), .val (.int (i2 &&& (7 : Int32))), .unset, .unset, .unset, .unset, .unset, .unset] [])) _
  refine XS.iloadN X0.here hx rfl (hb hby at_5) rfl ?_
  show Steps p.tables e below (T0.setTop (mkF m 6 #[.val (.long j0), .second, .val (.int i2), .val (.int (i2 &&& (7 : Int32))), .unset, .unset, .unset, .unset, .unset, .unset] [(.int i2)])) _
  refine XS.iconst X0.here hx rfl (hb hby at_6) ?_
  show Steps p.tables e below (T0.setTop (mkF m 7 #[.val (.long j0), .second, .val (.int i2), .val (.int (i2 &&& (7 : Int32))), .unset, .unset, .unset, .unset, .unset, .unset] [(.int (3 : Int32)), (.int i2)])) _
  refine XS.iushr X0.here hx rfl (hb hby at_7) rfl ?_
  show Steps p.tables e below (T0.setTop (mkF m 8 #[.val (.long j0), .second, .val (.int i2), .val (.int (i2 &&& (7 : Int32))), .unset, .unset, .unset, .unset, .unset, .unset] [(.int ((i2.toUInt32 >>> ((3 : Int32) &&& 31).toUInt32).toInt32))])) _
  refine XS.iconst X0.here hx rfl (hb hby at_8) ?_
  show Steps p.tables e below (T0.setTop (mkF m 9 #[.val (.long j0), .second, .val (.int i2), .val (.int (i2 &&& (7 : Int32))), .unset, .unset, .unset, .unset, .unset, .unset] [(.int (3 : Int32)), (.int ((i2.toUInt32 >>> ((3 : Int32) &&& 31).toUInt32).toInt32))])) _
  refine XS.iand X0.here hx rfl (hb hby at_9) rfl ?_
  show Steps p.tables e below (T0.setTop (mkF m 10 #[.val (.long j0), .second, .val (.int i2), .val (.int (i2 &&& (7 : Int32))), .unset, .unset, .unset, .unset, .unset, .unset] [(.int (((i2.toUInt32 >>> ((3 : Int32) &&& 31).toUInt32).toInt32) &&& (3 : Int32)))])) _
  refine XS.i2l X0.here hx rfl (hb hby at_10) rfl ?_
  show Steps p.tables e below (T0.setTop (mkF m 11 #[.val (.long j0), .second, .val (.int i2), .val (.int (i2 &&& (7 : Int32))), .unset, .unset, .unset, .unset, .unset, .unset] [(.long ((((i2.toUInt32 >>> ((3 : Int32) &&& 31).toUInt32).toInt32) &&& (3 : Int32)).toInt64))])) _
  refine XS.lstore X0.here hx rfl (hb hby at_11) rfl (l' := #[.val (.long j0), .second, .val (.int i2), .val (.int (i2 &&& (7 : Int32))), .val (.long ((((i2.toUInt32 >>> ((3 : Int32) &&& 31).toUInt32).toInt32) &&& (3 : Int32)).toInt64)), .second, .unset, .unset, .unset, .unset]) rfl ?_
  show Steps p.tables e below (T0.setTop (mkF m 13 #[.val (.long j0), .second, .val (.int i2), .val (.int (i2 &&& (7 : Int32))), .val (.long ((((i2.toUInt32 >>> ((3 : Int32) &&& 31).toUInt32).toInt32) &&& (3 : Int32)).toInt64)), .second, .unset, .unset, .unset, .unset] [])) _
  refine XS.iloadN X0.here hx rfl (hb hby at_13) rfl ?_
  show Steps p.tables e below (T0.setTop (mkF m 14 #[.val (.long j0), .second, .val (.int i2), .val (.int (i2 &&& (7 : Int32))), .val (.long ((((i2.toUInt32 >>> ((3 : Int32) &&& 31).toUInt32).toInt32) &&& (3 : Int32)).toInt64)), .second, .unset, .unset, .unset, .unset] [(.int (i2 &&& (7 : Int32)))])) _
  refine XS.ifYes X0.here hx rfl (pc0 := 14) (pc' := 30) rfl (hb hby at_14) rfl ((if0 _ _).trans (feq hc14).2) (by decide) (by decide) ?_
  show Steps p.tables e below (T0.setTop (mkF m 30 #[.val (.long j0), .second, .val (.int i2), .val (.int (i2 &&& (7 : Int32))), .val (.long ((((i2.toUInt32 >>> ((3 : Int32) &&& 31).toUInt32).toInt32) &&& (3 : Int32)).toInt64)), .second, .unset, .unset, .unset, .unset] [])) _
  refine XS.iloadN X0.here hx rfl (hb hby at_30) rfl ?_
  show Steps p.tables e below (T0.setTop (mkF m 31 #[.val (.long j0), .second, .val (.int i2), .val (.int (i2 &&& (7 : Int32))), .val (.long ((((i2.toUInt32 >>> ((3 : Int32) &&& 31).toUInt32).toInt32) &&& (3 : Int32)).toInt64)), .second, .unset, .unset, .unset, .unset] [(.int (i2 &&& (7 : Int32)))])) _
  refine XS.iconst X0.here hx rfl (hb hby at_31) ?_
  show Steps p.tables e below (T0.setTop (mkF m 32 #[.val (.long j0), .second, .val (.int i2), .val (.int (i2 &&& (7 : Int32))), .val (.long ((((i2.toUInt32 >>> ((3 : Int32) &&& 31).toUInt32).toInt32) &&& (3 : Int32)).toInt64)), .second, .unset, .unset, .unset, .unset] [(.int (1 : Int32)), (.int (i2 &&& (7 : Int32)))])) _
  refine XS.icmpYes X0.here hx rfl (pc0 := 32) (pc' := 50) rfl (hb hby at_32) rfl (feq hc32).2 (by decide) (by decide) ?_
  show Steps p.tables e below (T0.setTop (mkF m 50 #[.val (.long j0), .second, .val (.int i2), .val (.int (i2 &&& (7 : Int32))), .val (.long ((((i2.toUInt32 >>> ((3 : Int32) &&& 31).toUInt32).toInt32) &&& (3 : Int32)).toInt64)), .second, .unset, .unset, .unset, .unset] [])) _
  refine XS.iloadN X0.here hx rfl (hb hby at_50) rfl ?_
  show Steps p.tables e below (T0.setTop (mkF m 51 #[.val (.long j0), .second, .val (.int i2), .val (.int (i2 &&& (7 : Int32))), .val (.long ((((i2.toUInt32 >>> ((3 : Int32) &&& 31).toUInt32).toInt32) &&& (3 : Int32)).toInt64)), .second, .unset, .unset, .unset, .unset] [(.int (i2 &&& (7 : Int32)))])) _
  refine XS.iconst X0.here hx rfl (hb hby at_51) ?_
  show Steps p.tables e below (T0.setTop (mkF m 52 #[.val (.long j0), .second, .val (.int i2), .val (.int (i2 &&& (7 : Int32))), .val (.long ((((i2.toUInt32 >>> ((3 : Int32) &&& 31).toUInt32).toInt32) &&& (3 : Int32)).toInt64)), .second, .unset, .unset, .unset, .unset] [(.int (2 : Int32)), (.int (i2 &&& (7 : Int32)))])) _
  refine XS.icmpNo X0.here hx rfl (hb hby at_52) rfl (teq hc52).2 ?_
  show Steps p.tables e below (T0.setTop (mkF m 55 #[.val (.long j0), .second, .val (.int i2), .val (.int (i2 &&& (7 : Int32))), .val (.long ((((i2.toUInt32 >>> ((3 : Int32) &&& 31).toUInt32).toInt32) &&& (3 : Int32)).toInt64)), .second, .unset, .unset, .unset, .unset] [])) _
  refine X0.ldc2Long hx hown (mvT hZ (hw _ (List.mem_of_getElem? (i := 0) rfl))) (g := (mkF m 55 #[.val (.long j0), .second, .val (.int i2), .val (.int (i2 &&& (7 : Int32))), .val (.long ((((i2.toUInt32 >>> ((3 : Int32) &&& 31).toUInt32).toInt32) &&& (3 : Int32)).toInt64)), .second, .unset, .unset, .unset, .unset] [])) rfl (hb hby at_55) _ ?_
  show Steps p.tables e below (T0.setTop (mkF m 58 #[.val (.long j0), .second, .val (.int i2), .val (.int (i2 &&& (7 : Int32))), .val (.long ((((i2.toUInt32 >>> ((3 : Int32) &&& 31).toUInt32).toInt32) &&& (3 : Int32)).toInt64)), .second, .unset, .unset, .unset, .unset] [(.long (10000 : Int64))])) _
  refine XS.lload X0.here hx rfl (hb hby at_58) rfl ?_
  show Steps p.tables e below (T0.setTop (mkF m 60 #[.val (.long j0), .second, .val (.int i2), .val (.int (i2 &&& (7 : Int32))), .val (.long ((((i2.toUInt32 >>> ((3 : Int32) &&& 31).toUInt32).toInt32) &&& (3 : Int32)).toInt64)), .second, .unset, .unset, .unset, .unset] [(.long ((((i2.toUInt32 >>> ((3 : Int32) &&& 31).toUInt32).toInt32) &&& (3 : Int32)).toInt64)), (.long (10000 : Int64))])) _
  refine XS.ladd X0.here hx rfl (hb hby at_60) rfl ?_
  show Steps p.tables e below (T0.setTop (mkF m 61 #[.val (.long j0), .second, .val (.int i2), .val (.int (i2 &&& (7 : Int32))), .val (.long ((((i2.toUInt32 >>> ((3 : Int32) &&& 31).toUInt32).toInt32) &&& (3 : Int32)).toInt64)), .second, .unset, .unset, .unset, .unset] [(.long ((10000 : Int64) + ((((i2.toUInt32 >>> ((3 : Int32) &&& 31).toUInt32).toInt32) &&& (3 : Int32)).toInt64)))])) _
  refine X0.ldc2Long hx hown (mvT hZ (hw _ (List.mem_of_getElem? (i := 1) rfl))) (g := (mkF m 61 #[.val (.long j0), .second, .val (.int i2), .val (.int (i2 &&& (7 : Int32))), .val (.long ((((i2.toUInt32 >>> ((3 : Int32) &&& 31).toUInt32).toInt32) &&& (3 : Int32)).toInt64)), .second, .unset, .unset, .unset, .unset] [(.long ((10000 : Int64) + ((((i2.toUInt32 >>> ((3 : Int32) &&& 31).toUInt32).toInt32) &&& (3 : Int32)).toInt64)))])) rfl (hb hby at_61) _ ?_
  show Steps p.tables e below (T0.setTop (mkF m 64 #[.val (.long j0), .second, .val (.int i2), .val (.int (i2 &&& (7 : Int32))), .val (.long ((((i2.toUInt32 >>> ((3 : Int32) &&& 31).toUInt32).toInt32) &&& (3 : Int32)).toInt64)), .second, .unset, .unset, .unset, .unset] [(.long (2 : Int64)), (.long ((10000 : Int64) + ((((i2.toUInt32 >>> ((3 : Int32) &&& 31).toUInt32).toInt32) &&& (3 : Int32)).toInt64)))])) _
  refine XS.lsub X0.here hx rfl (hb hby at_64) rfl ?_
  show Steps p.tables e below (T0.setTop (mkF m 65 #[.val (.long j0), .second, .val (.int i2), .val (.int (i2 &&& (7 : Int32))), .val (.long ((((i2.toUInt32 >>> ((3 : Int32) &&& 31).toUInt32).toInt32) &&& (3 : Int32)).toInt64)), .second, .unset, .unset, .unset, .unset] [(.long (((10000 : Int64) + ((((i2.toUInt32 >>> ((3 : Int32) &&& 31).toUInt32).toInt32) &&& (3 : Int32)).toInt64)) - (2 : Int64)))])) _
  refine XS.lstore X0.here hx rfl (hb hby at_65) rfl (l' := #[.val (.long j0), .second, .val (.int i2), .val (.int (i2 &&& (7 : Int32))), .val (.long ((((i2.toUInt32 >>> ((3 : Int32) &&& 31).toUInt32).toInt32) &&& (3 : Int32)).toInt64)), .second, .val (.long (((10000 : Int64) + ((((i2.toUInt32 >>> ((3 : Int32) &&& 31).toUInt32).toInt32) &&& (3 : Int32)).toInt64)) - (2 : Int64))), .second, .unset, .unset]) rfl ?_
  show Steps p.tables e below (T0.setTop (mkF m 67 #[.val (.long j0), .second, .val (.int i2), .val (.int (i2 &&& (7 : Int32))), .val (.long ((((i2.toUInt32 >>> ((3 : Int32) &&& 31).toUInt32).toInt32) &&& (3 : Int32)).toInt64)), .second, .val (.long (((10000 : Int64) + ((((i2.toUInt32 >>> ((3 : Int32) &&& 31).toUInt32).toInt32) &&& (3 : Int32)).toInt64)) - (2 : Int64))), .second, .unset, .unset] [])) _
  refine XS.goto X0.here hx rfl (pc0 := 67) (pc' := 125) rfl (hb hby at_67) (by decide) (by decide) ?_
  exact kt

set_option maxRecDepth 65536 in
set_option maxHeartbeats 40000000 in
theorem sa_3 {p : Program} {l : Launch} {e : Env} {R : Room} {s : State} {m : MethodId} {args : Array Value} {below : List Frame} {meth : Method} {c : Code} {T0 : State} {locs : List Loc} {cells slots : Nat} {Z : State} {a0 : Array Value} {h0 : Heap} (j0 : Int64) (i2 : Int32)
    (X0 : Stand p l e R s m args below meth c T0 locs cells slots) (hx : p.tables.exec = Jvm.exec) (hZ : Z.Warmed39 s.vm) (hw : ∀ d ∈ tables_1, d.before a0 Z = true) (hby : c.code = code) (hml : c.maxLocals = 10) (hown : s.vm.findClass "com/example/advent_ledger/adventledger/BadgeEarnedByPinLaw" = some m.cls) (e0 : T0.heap = h0) (hc14 : ¬ ((i2 &&& (7 : Int32)) = (0 : Int32))) (hc32 : ¬ ((i2 &&& (7 : Int32)) = (1 : Int32))) (hc52 : ¬ ((i2 &&& (7 : Int32)) = (2 : Int32))) (hc72 : (i2 &&& (7 : Int32)) = (3 : Int32)) :
    ∃ (T' : State), Stand p l e R s m args below meth c T' locs cells slots ∧ T'.heap = h0 ∧
      ∀ target, Steps p.tables e below (T'.setTop (mkF m 125 #[.val (.long j0), .second, .val (.int i2), .val (.int (i2 &&& (7 : Int32))), .val (.long ((((i2.toUInt32 >>> ((3 : Int32) &&& 31).toUInt32).toInt32) &&& (3 : Int32)).toInt64)), .second, .val (.long (((20000 : Int64) + ((((i2.toUInt32 >>> ((3 : Int32) &&& 31).toUInt32).toInt32) &&& (3 : Int32)).toInt64)) - (2 : Int64))), .second, .unset, .unset] [])) target → Steps p.tables e below (T0.setTop (mkF m 0 #[.val (.long j0), .second, .val (.int i2), .unset, .unset, .unset, .unset, .unset, .unset, .unset] [])) target := by

  refine ⟨T0, X0, e0, fun target kt => ?_⟩
  show Steps p.tables e below (T0.setTop (mkF m 0 #[.val (.long j0), .second, .val (.int i2), .unset, .unset, .unset, .unset, .unset, .unset, .unset] [])) _
  refine XS.iloadN X0.here hx rfl (hb hby at_0) rfl ?_
  show Steps p.tables e below (T0.setTop (mkF m 1 #[.val (.long j0), .second, .val (.int i2), .unset, .unset, .unset, .unset, .unset, .unset, .unset] [(.int i2)])) _
  refine XS.bipush X0.here hx rfl (hb hby at_1) ?_
  show Steps p.tables e below (T0.setTop (mkF m 3 #[.val (.long j0), .second, .val (.int i2), .unset, .unset, .unset, .unset, .unset, .unset, .unset] [(.int (7 : Int32)), (.int i2)])) _
  refine XS.iand X0.here hx rfl (hb hby at_3) rfl ?_
  show Steps p.tables e below (T0.setTop (mkF m 4 #[.val (.long j0), .second, .val (.int i2), .unset, .unset, .unset, .unset, .unset, .unset, .unset] [(.int (i2 &&& (7 : Int32)))])) _
  refine XS.istoreN X0.here hx rfl (hb hby at_4) rfl (l' := #[.val (.long j0), .second, .val (.int i2), .val (.int (i2 &&& (7 : Int32))), .unset, .unset, .unset, .unset, .unset, .unset]) rfl ?_
  show Steps p.tables e below (T0.setTop (mkF m 5 #[.val (.long j0), .second, .val (.int i2), .val (.int (i2 &&& (7 : Int32))), .unset, .unset, .unset, .unset, .unset, .unset] [])) _
  refine XS.iloadN X0.here hx rfl (hb hby at_5) rfl ?_
  show Steps p.tables e below (T0.setTop (mkF m 6 #[.val (.long j0), .second, .val (.int i2), .val (.int (i2 &&& (7 : Int32))), .unset, .unset, .unset, .unset, .unset, .unset] [(.int i2)])) _
  refine XS.iconst X0.here hx rfl (hb hby at_6) ?_
  show Steps p.tables e below (T0.setTop (mkF m 7 #[.val (.long j0), .second, .val (.int i2), .val (.int (i2 &&& (7 : Int32))), .unset, .unset, .unset, .unset, .unset, .unset] [(.int (3 : Int32)), (.int i2)])) _
  refine XS.iushr X0.here hx rfl (hb hby at_7) rfl ?_
  show Steps p.tables e below (T0.setTop (mkF m 8 #[.val (.long j0), .second, .val (.int i2), .val (.int (i2 &&& (7 : Int32))), .unset, .unset, .unset, .unset, .unset, .unset] [(.int ((i2.toUInt32 >>> ((3 : Int32) &&& 31).toUInt32).toInt32))])) _
  refine XS.iconst X0.here hx rfl (hb hby at_8) ?_
  show Steps p.tables e below (T0.setTop (mkF m 9 #[.val (.long j0), .second, .val (.int i2), .val (.int (i2 &&& (7 : Int32))), .unset, .unset, .unset, .unset, .unset, .unset] [(.int (3 : Int32)), (.int ((i2.toUInt32 >>> ((3 : Int32) &&& 31).toUInt32).toInt32))])) _
  refine XS.iand X0.here hx rfl (hb hby at_9) rfl ?_
  show Steps p.tables e below (T0.setTop (mkF m 10 #[.val (.long j0), .second, .val (.int i2), .val (.int (i2 &&& (7 : Int32))), .unset, .unset, .unset, .unset, .unset, .unset] [(.int (((i2.toUInt32 >>> ((3 : Int32) &&& 31).toUInt32).toInt32) &&& (3 : Int32)))])) _
  refine XS.i2l X0.here hx rfl (hb hby at_10) rfl ?_
  show Steps p.tables e below (T0.setTop (mkF m 11 #[.val (.long j0), .second, .val (.int i2), .val (.int (i2 &&& (7 : Int32))), .unset, .unset, .unset, .unset, .unset, .unset] [(.long ((((i2.toUInt32 >>> ((3 : Int32) &&& 31).toUInt32).toInt32) &&& (3 : Int32)).toInt64))])) _
  refine XS.lstore X0.here hx rfl (hb hby at_11) rfl (l' := #[.val (.long j0), .second, .val (.int i2), .val (.int (i2 &&& (7 : Int32))), .val (.long ((((i2.toUInt32 >>> ((3 : Int32) &&& 31).toUInt32).toInt32) &&& (3 : Int32)).toInt64)), .second, .unset, .unset, .unset, .unset]) rfl ?_
  show Steps p.tables e below (T0.setTop (mkF m 13 #[.val (.long j0), .second, .val (.int i2), .val (.int (i2 &&& (7 : Int32))), .val (.long ((((i2.toUInt32 >>> ((3 : Int32) &&& 31).toUInt32).toInt32) &&& (3 : Int32)).toInt64)), .second, .unset, .unset, .unset, .unset] [])) _
  refine XS.iloadN X0.here hx rfl (hb hby at_13) rfl ?_
  show Steps p.tables e below (T0.setTop (mkF m 14 #[.val (.long j0), .second, .val (.int i2), .val (.int (i2 &&& (7 : Int32))), .val (.long ((((i2.toUInt32 >>> ((3 : Int32) &&& 31).toUInt32).toInt32) &&& (3 : Int32)).toInt64)), .second, .unset, .unset, .unset, .unset] [(.int (i2 &&& (7 : Int32)))])) _
  refine XS.ifYes X0.here hx rfl (pc0 := 14) (pc' := 30) rfl (hb hby at_14) rfl ((if0 _ _).trans (feq hc14).2) (by decide) (by decide) ?_
  show Steps p.tables e below (T0.setTop (mkF m 30 #[.val (.long j0), .second, .val (.int i2), .val (.int (i2 &&& (7 : Int32))), .val (.long ((((i2.toUInt32 >>> ((3 : Int32) &&& 31).toUInt32).toInt32) &&& (3 : Int32)).toInt64)), .second, .unset, .unset, .unset, .unset] [])) _
  refine XS.iloadN X0.here hx rfl (hb hby at_30) rfl ?_
  show Steps p.tables e below (T0.setTop (mkF m 31 #[.val (.long j0), .second, .val (.int i2), .val (.int (i2 &&& (7 : Int32))), .val (.long ((((i2.toUInt32 >>> ((3 : Int32) &&& 31).toUInt32).toInt32) &&& (3 : Int32)).toInt64)), .second, .unset, .unset, .unset, .unset] [(.int (i2 &&& (7 : Int32)))])) _
  refine XS.iconst X0.here hx rfl (hb hby at_31) ?_
  show Steps p.tables e below (T0.setTop (mkF m 32 #[.val (.long j0), .second, .val (.int i2), .val (.int (i2 &&& (7 : Int32))), .val (.long ((((i2.toUInt32 >>> ((3 : Int32) &&& 31).toUInt32).toInt32) &&& (3 : Int32)).toInt64)), .second, .unset, .unset, .unset, .unset] [(.int (1 : Int32)), (.int (i2 &&& (7 : Int32)))])) _
  refine XS.icmpYes X0.here hx rfl (pc0 := 32) (pc' := 50) rfl (hb hby at_32) rfl (feq hc32).2 (by decide) (by decide) ?_
  show Steps p.tables e below (T0.setTop (mkF m 50 #[.val (.long j0), .second, .val (.int i2), .val (.int (i2 &&& (7 : Int32))), .val (.long ((((i2.toUInt32 >>> ((3 : Int32) &&& 31).toUInt32).toInt32) &&& (3 : Int32)).toInt64)), .second, .unset, .unset, .unset, .unset] [])) _
  refine XS.iloadN X0.here hx rfl (hb hby at_50) rfl ?_
  show Steps p.tables e below (T0.setTop (mkF m 51 #[.val (.long j0), .second, .val (.int i2), .val (.int (i2 &&& (7 : Int32))), .val (.long ((((i2.toUInt32 >>> ((3 : Int32) &&& 31).toUInt32).toInt32) &&& (3 : Int32)).toInt64)), .second, .unset, .unset, .unset, .unset] [(.int (i2 &&& (7 : Int32)))])) _
  refine XS.iconst X0.here hx rfl (hb hby at_51) ?_
  show Steps p.tables e below (T0.setTop (mkF m 52 #[.val (.long j0), .second, .val (.int i2), .val (.int (i2 &&& (7 : Int32))), .val (.long ((((i2.toUInt32 >>> ((3 : Int32) &&& 31).toUInt32).toInt32) &&& (3 : Int32)).toInt64)), .second, .unset, .unset, .unset, .unset] [(.int (2 : Int32)), (.int (i2 &&& (7 : Int32)))])) _
  refine XS.icmpYes X0.here hx rfl (pc0 := 52) (pc' := 70) rfl (hb hby at_52) rfl (feq hc52).2 (by decide) (by decide) ?_
  show Steps p.tables e below (T0.setTop (mkF m 70 #[.val (.long j0), .second, .val (.int i2), .val (.int (i2 &&& (7 : Int32))), .val (.long ((((i2.toUInt32 >>> ((3 : Int32) &&& 31).toUInt32).toInt32) &&& (3 : Int32)).toInt64)), .second, .unset, .unset, .unset, .unset] [])) _
  refine XS.iloadN X0.here hx rfl (hb hby at_70) rfl ?_
  show Steps p.tables e below (T0.setTop (mkF m 71 #[.val (.long j0), .second, .val (.int i2), .val (.int (i2 &&& (7 : Int32))), .val (.long ((((i2.toUInt32 >>> ((3 : Int32) &&& 31).toUInt32).toInt32) &&& (3 : Int32)).toInt64)), .second, .unset, .unset, .unset, .unset] [(.int (i2 &&& (7 : Int32)))])) _
  refine XS.iconst X0.here hx rfl (hb hby at_71) ?_
  show Steps p.tables e below (T0.setTop (mkF m 72 #[.val (.long j0), .second, .val (.int i2), .val (.int (i2 &&& (7 : Int32))), .val (.long ((((i2.toUInt32 >>> ((3 : Int32) &&& 31).toUInt32).toInt32) &&& (3 : Int32)).toInt64)), .second, .unset, .unset, .unset, .unset] [(.int (3 : Int32)), (.int (i2 &&& (7 : Int32)))])) _
  refine XS.icmpNo X0.here hx rfl (hb hby at_72) rfl (teq hc72).2 ?_
  show Steps p.tables e below (T0.setTop (mkF m 75 #[.val (.long j0), .second, .val (.int i2), .val (.int (i2 &&& (7 : Int32))), .val (.long ((((i2.toUInt32 >>> ((3 : Int32) &&& 31).toUInt32).toInt32) &&& (3 : Int32)).toInt64)), .second, .unset, .unset, .unset, .unset] [])) _
  refine X0.ldc2Long hx hown (mvT hZ (hw _ (List.mem_of_getElem? (i := 15) rfl))) (g := (mkF m 75 #[.val (.long j0), .second, .val (.int i2), .val (.int (i2 &&& (7 : Int32))), .val (.long ((((i2.toUInt32 >>> ((3 : Int32) &&& 31).toUInt32).toInt32) &&& (3 : Int32)).toInt64)), .second, .unset, .unset, .unset, .unset] [])) rfl (hb hby at_75) _ ?_
  show Steps p.tables e below (T0.setTop (mkF m 78 #[.val (.long j0), .second, .val (.int i2), .val (.int (i2 &&& (7 : Int32))), .val (.long ((((i2.toUInt32 >>> ((3 : Int32) &&& 31).toUInt32).toInt32) &&& (3 : Int32)).toInt64)), .second, .unset, .unset, .unset, .unset] [(.long (20000 : Int64))])) _
  refine XS.lload X0.here hx rfl (hb hby at_78) rfl ?_
  show Steps p.tables e below (T0.setTop (mkF m 80 #[.val (.long j0), .second, .val (.int i2), .val (.int (i2 &&& (7 : Int32))), .val (.long ((((i2.toUInt32 >>> ((3 : Int32) &&& 31).toUInt32).toInt32) &&& (3 : Int32)).toInt64)), .second, .unset, .unset, .unset, .unset] [(.long ((((i2.toUInt32 >>> ((3 : Int32) &&& 31).toUInt32).toInt32) &&& (3 : Int32)).toInt64)), (.long (20000 : Int64))])) _
  refine XS.ladd X0.here hx rfl (hb hby at_80) rfl ?_
  show Steps p.tables e below (T0.setTop (mkF m 81 #[.val (.long j0), .second, .val (.int i2), .val (.int (i2 &&& (7 : Int32))), .val (.long ((((i2.toUInt32 >>> ((3 : Int32) &&& 31).toUInt32).toInt32) &&& (3 : Int32)).toInt64)), .second, .unset, .unset, .unset, .unset] [(.long ((20000 : Int64) + ((((i2.toUInt32 >>> ((3 : Int32) &&& 31).toUInt32).toInt32) &&& (3 : Int32)).toInt64)))])) _
  refine X0.ldc2Long hx hown (mvT hZ (hw _ (List.mem_of_getElem? (i := 1) rfl))) (g := (mkF m 81 #[.val (.long j0), .second, .val (.int i2), .val (.int (i2 &&& (7 : Int32))), .val (.long ((((i2.toUInt32 >>> ((3 : Int32) &&& 31).toUInt32).toInt32) &&& (3 : Int32)).toInt64)), .second, .unset, .unset, .unset, .unset] [(.long ((20000 : Int64) + ((((i2.toUInt32 >>> ((3 : Int32) &&& 31).toUInt32).toInt32) &&& (3 : Int32)).toInt64)))])) rfl (hb hby at_81) _ ?_
  show Steps p.tables e below (T0.setTop (mkF m 84 #[.val (.long j0), .second, .val (.int i2), .val (.int (i2 &&& (7 : Int32))), .val (.long ((((i2.toUInt32 >>> ((3 : Int32) &&& 31).toUInt32).toInt32) &&& (3 : Int32)).toInt64)), .second, .unset, .unset, .unset, .unset] [(.long (2 : Int64)), (.long ((20000 : Int64) + ((((i2.toUInt32 >>> ((3 : Int32) &&& 31).toUInt32).toInt32) &&& (3 : Int32)).toInt64)))])) _
  refine XS.lsub X0.here hx rfl (hb hby at_84) rfl ?_
  show Steps p.tables e below (T0.setTop (mkF m 85 #[.val (.long j0), .second, .val (.int i2), .val (.int (i2 &&& (7 : Int32))), .val (.long ((((i2.toUInt32 >>> ((3 : Int32) &&& 31).toUInt32).toInt32) &&& (3 : Int32)).toInt64)), .second, .unset, .unset, .unset, .unset] [(.long (((20000 : Int64) + ((((i2.toUInt32 >>> ((3 : Int32) &&& 31).toUInt32).toInt32) &&& (3 : Int32)).toInt64)) - (2 : Int64)))])) _
  refine XS.lstore X0.here hx rfl (hb hby at_85) rfl (l' := #[.val (.long j0), .second, .val (.int i2), .val (.int (i2 &&& (7 : Int32))), .val (.long ((((i2.toUInt32 >>> ((3 : Int32) &&& 31).toUInt32).toInt32) &&& (3 : Int32)).toInt64)), .second, .val (.long (((20000 : Int64) + ((((i2.toUInt32 >>> ((3 : Int32) &&& 31).toUInt32).toInt32) &&& (3 : Int32)).toInt64)) - (2 : Int64))), .second, .unset, .unset]) rfl ?_
  show Steps p.tables e below (T0.setTop (mkF m 87 #[.val (.long j0), .second, .val (.int i2), .val (.int (i2 &&& (7 : Int32))), .val (.long ((((i2.toUInt32 >>> ((3 : Int32) &&& 31).toUInt32).toInt32) &&& (3 : Int32)).toInt64)), .second, .val (.long (((20000 : Int64) + ((((i2.toUInt32 >>> ((3 : Int32) &&& 31).toUInt32).toInt32) &&& (3 : Int32)).toInt64)) - (2 : Int64))), .second, .unset, .unset] [])) _
  refine XS.goto X0.here hx rfl (pc0 := 87) (pc' := 125) rfl (hb hby at_87) (by decide) (by decide) ?_
  exact kt

set_option maxRecDepth 65536 in
set_option maxHeartbeats 40000000 in
theorem sa_4 {p : Program} {l : Launch} {e : Env} {R : Room} {s : State} {m : MethodId} {args : Array Value} {below : List Frame} {meth : Method} {c : Code} {T0 : State} {locs : List Loc} {cells slots : Nat} {Z : State} {a0 : Array Value} {h0 : Heap} (j0 : Int64) (i2 : Int32)
    (X0 : Stand p l e R s m args below meth c T0 locs cells slots) (hx : p.tables.exec = Jvm.exec) (hZ : Z.Warmed39 s.vm) (hw : ∀ d ∈ tables_1, d.before a0 Z = true) (hby : c.code = code) (hml : c.maxLocals = 10) (hown : s.vm.findClass "com/example/advent_ledger/adventledger/BadgeEarnedByPinLaw" = some m.cls) (e0 : T0.heap = h0) (hc14 : ¬ ((i2 &&& (7 : Int32)) = (0 : Int32))) (hc32 : ¬ ((i2 &&& (7 : Int32)) = (1 : Int32))) (hc52 : ¬ ((i2 &&& (7 : Int32)) = (2 : Int32))) (hc72 : ¬ ((i2 &&& (7 : Int32)) = (3 : Int32))) (hc92 : (i2 &&& (7 : Int32)) = (4 : Int32)) :
    ∃ (T' : State), Stand p l e R s m args below meth c T' locs cells slots ∧ T'.heap = h0 ∧
      ∀ target, Steps p.tables e below (T'.setTop (mkF m 125 #[.val (.long j0), .second, .val (.int i2), .val (.int (i2 &&& (7 : Int32))), .val (.long ((((i2.toUInt32 >>> ((3 : Int32) &&& 31).toUInt32).toInt32) &&& (3 : Int32)).toInt64)), .second, .val (.long ((-9223372036854775808 : Int64) + ((((i2.toUInt32 >>> ((3 : Int32) &&& 31).toUInt32).toInt32) &&& (3 : Int32)).toInt64))), .second, .unset, .unset] [])) target → Steps p.tables e below (T0.setTop (mkF m 0 #[.val (.long j0), .second, .val (.int i2), .unset, .unset, .unset, .unset, .unset, .unset, .unset] [])) target := by

  refine ⟨T0, X0, e0, fun target kt => ?_⟩
  show Steps p.tables e below (T0.setTop (mkF m 0 #[.val (.long j0), .second, .val (.int i2), .unset, .unset, .unset, .unset, .unset, .unset, .unset] [])) _
  refine XS.iloadN X0.here hx rfl (hb hby at_0) rfl ?_
  show Steps p.tables e below (T0.setTop (mkF m 1 #[.val (.long j0), .second, .val (.int i2), .unset, .unset, .unset, .unset, .unset, .unset, .unset] [(.int i2)])) _
  refine XS.bipush X0.here hx rfl (hb hby at_1) ?_
  show Steps p.tables e below (T0.setTop (mkF m 3 #[.val (.long j0), .second, .val (.int i2), .unset, .unset, .unset, .unset, .unset, .unset, .unset] [(.int (7 : Int32)), (.int i2)])) _
  refine XS.iand X0.here hx rfl (hb hby at_3) rfl ?_
  show Steps p.tables e below (T0.setTop (mkF m 4 #[.val (.long j0), .second, .val (.int i2), .unset, .unset, .unset, .unset, .unset, .unset, .unset] [(.int (i2 &&& (7 : Int32)))])) _
  refine XS.istoreN X0.here hx rfl (hb hby at_4) rfl (l' := #[.val (.long j0), .second, .val (.int i2), .val (.int (i2 &&& (7 : Int32))), .unset, .unset, .unset, .unset, .unset, .unset]) rfl ?_
  show Steps p.tables e below (T0.setTop (mkF m 5 #[.val (.long j0), .second, .val (.int i2), .val (.int (i2 &&& (7 : Int32))), .unset, .unset, .unset, .unset, .unset, .unset] [])) _
  refine XS.iloadN X0.here hx rfl (hb hby at_5) rfl ?_
  show Steps p.tables e below (T0.setTop (mkF m 6 #[.val (.long j0), .second, .val (.int i2), .val (.int (i2 &&& (7 : Int32))), .unset, .unset, .unset, .unset, .unset, .unset] [(.int i2)])) _
  refine XS.iconst X0.here hx rfl (hb hby at_6) ?_
  show Steps p.tables e below (T0.setTop (mkF m 7 #[.val (.long j0), .second, .val (.int i2), .val (.int (i2 &&& (7 : Int32))), .unset, .unset, .unset, .unset, .unset, .unset] [(.int (3 : Int32)), (.int i2)])) _
  refine XS.iushr X0.here hx rfl (hb hby at_7) rfl ?_
  show Steps p.tables e below (T0.setTop (mkF m 8 #[.val (.long j0), .second, .val (.int i2), .val (.int (i2 &&& (7 : Int32))), .unset, .unset, .unset, .unset, .unset, .unset] [(.int ((i2.toUInt32 >>> ((3 : Int32) &&& 31).toUInt32).toInt32))])) _
  refine XS.iconst X0.here hx rfl (hb hby at_8) ?_
  show Steps p.tables e below (T0.setTop (mkF m 9 #[.val (.long j0), .second, .val (.int i2), .val (.int (i2 &&& (7 : Int32))), .unset, .unset, .unset, .unset, .unset, .unset] [(.int (3 : Int32)), (.int ((i2.toUInt32 >>> ((3 : Int32) &&& 31).toUInt32).toInt32))])) _
  refine XS.iand X0.here hx rfl (hb hby at_9) rfl ?_
  show Steps p.tables e below (T0.setTop (mkF m 10 #[.val (.long j0), .second, .val (.int i2), .val (.int (i2 &&& (7 : Int32))), .unset, .unset, .unset, .unset, .unset, .unset] [(.int (((i2.toUInt32 >>> ((3 : Int32) &&& 31).toUInt32).toInt32) &&& (3 : Int32)))])) _
  refine XS.i2l X0.here hx rfl (hb hby at_10) rfl ?_
  show Steps p.tables e below (T0.setTop (mkF m 11 #[.val (.long j0), .second, .val (.int i2), .val (.int (i2 &&& (7 : Int32))), .unset, .unset, .unset, .unset, .unset, .unset] [(.long ((((i2.toUInt32 >>> ((3 : Int32) &&& 31).toUInt32).toInt32) &&& (3 : Int32)).toInt64))])) _
  refine XS.lstore X0.here hx rfl (hb hby at_11) rfl (l' := #[.val (.long j0), .second, .val (.int i2), .val (.int (i2 &&& (7 : Int32))), .val (.long ((((i2.toUInt32 >>> ((3 : Int32) &&& 31).toUInt32).toInt32) &&& (3 : Int32)).toInt64)), .second, .unset, .unset, .unset, .unset]) rfl ?_
  show Steps p.tables e below (T0.setTop (mkF m 13 #[.val (.long j0), .second, .val (.int i2), .val (.int (i2 &&& (7 : Int32))), .val (.long ((((i2.toUInt32 >>> ((3 : Int32) &&& 31).toUInt32).toInt32) &&& (3 : Int32)).toInt64)), .second, .unset, .unset, .unset, .unset] [])) _
  refine XS.iloadN X0.here hx rfl (hb hby at_13) rfl ?_
  show Steps p.tables e below (T0.setTop (mkF m 14 #[.val (.long j0), .second, .val (.int i2), .val (.int (i2 &&& (7 : Int32))), .val (.long ((((i2.toUInt32 >>> ((3 : Int32) &&& 31).toUInt32).toInt32) &&& (3 : Int32)).toInt64)), .second, .unset, .unset, .unset, .unset] [(.int (i2 &&& (7 : Int32)))])) _
  refine XS.ifYes X0.here hx rfl (pc0 := 14) (pc' := 30) rfl (hb hby at_14) rfl ((if0 _ _).trans (feq hc14).2) (by decide) (by decide) ?_
  show Steps p.tables e below (T0.setTop (mkF m 30 #[.val (.long j0), .second, .val (.int i2), .val (.int (i2 &&& (7 : Int32))), .val (.long ((((i2.toUInt32 >>> ((3 : Int32) &&& 31).toUInt32).toInt32) &&& (3 : Int32)).toInt64)), .second, .unset, .unset, .unset, .unset] [])) _
  refine XS.iloadN X0.here hx rfl (hb hby at_30) rfl ?_
  show Steps p.tables e below (T0.setTop (mkF m 31 #[.val (.long j0), .second, .val (.int i2), .val (.int (i2 &&& (7 : Int32))), .val (.long ((((i2.toUInt32 >>> ((3 : Int32) &&& 31).toUInt32).toInt32) &&& (3 : Int32)).toInt64)), .second, .unset, .unset, .unset, .unset] [(.int (i2 &&& (7 : Int32)))])) _
  refine XS.iconst X0.here hx rfl (hb hby at_31) ?_
  show Steps p.tables e below (T0.setTop (mkF m 32 #[.val (.long j0), .second, .val (.int i2), .val (.int (i2 &&& (7 : Int32))), .val (.long ((((i2.toUInt32 >>> ((3 : Int32) &&& 31).toUInt32).toInt32) &&& (3 : Int32)).toInt64)), .second, .unset, .unset, .unset, .unset] [(.int (1 : Int32)), (.int (i2 &&& (7 : Int32)))])) _
  refine XS.icmpYes X0.here hx rfl (pc0 := 32) (pc' := 50) rfl (hb hby at_32) rfl (feq hc32).2 (by decide) (by decide) ?_
  show Steps p.tables e below (T0.setTop (mkF m 50 #[.val (.long j0), .second, .val (.int i2), .val (.int (i2 &&& (7 : Int32))), .val (.long ((((i2.toUInt32 >>> ((3 : Int32) &&& 31).toUInt32).toInt32) &&& (3 : Int32)).toInt64)), .second, .unset, .unset, .unset, .unset] [])) _
  refine XS.iloadN X0.here hx rfl (hb hby at_50) rfl ?_
  show Steps p.tables e below (T0.setTop (mkF m 51 #[.val (.long j0), .second, .val (.int i2), .val (.int (i2 &&& (7 : Int32))), .val (.long ((((i2.toUInt32 >>> ((3 : Int32) &&& 31).toUInt32).toInt32) &&& (3 : Int32)).toInt64)), .second, .unset, .unset, .unset, .unset] [(.int (i2 &&& (7 : Int32)))])) _
  refine XS.iconst X0.here hx rfl (hb hby at_51) ?_
  show Steps p.tables e below (T0.setTop (mkF m 52 #[.val (.long j0), .second, .val (.int i2), .val (.int (i2 &&& (7 : Int32))), .val (.long ((((i2.toUInt32 >>> ((3 : Int32) &&& 31).toUInt32).toInt32) &&& (3 : Int32)).toInt64)), .second, .unset, .unset, .unset, .unset] [(.int (2 : Int32)), (.int (i2 &&& (7 : Int32)))])) _
  refine XS.icmpYes X0.here hx rfl (pc0 := 52) (pc' := 70) rfl (hb hby at_52) rfl (feq hc52).2 (by decide) (by decide) ?_
  show Steps p.tables e below (T0.setTop (mkF m 70 #[.val (.long j0), .second, .val (.int i2), .val (.int (i2 &&& (7 : Int32))), .val (.long ((((i2.toUInt32 >>> ((3 : Int32) &&& 31).toUInt32).toInt32) &&& (3 : Int32)).toInt64)), .second, .unset, .unset, .unset, .unset] [])) _
  refine XS.iloadN X0.here hx rfl (hb hby at_70) rfl ?_
  show Steps p.tables e below (T0.setTop (mkF m 71 #[.val (.long j0), .second, .val (.int i2), .val (.int (i2 &&& (7 : Int32))), .val (.long ((((i2.toUInt32 >>> ((3 : Int32) &&& 31).toUInt32).toInt32) &&& (3 : Int32)).toInt64)), .second, .unset, .unset, .unset, .unset] [(.int (i2 &&& (7 : Int32)))])) _
  refine XS.iconst X0.here hx rfl (hb hby at_71) ?_
  show Steps p.tables e below (T0.setTop (mkF m 72 #[.val (.long j0), .second, .val (.int i2), .val (.int (i2 &&& (7 : Int32))), .val (.long ((((i2.toUInt32 >>> ((3 : Int32) &&& 31).toUInt32).toInt32) &&& (3 : Int32)).toInt64)), .second, .unset, .unset, .unset, .unset] [(.int (3 : Int32)), (.int (i2 &&& (7 : Int32)))])) _
  refine XS.icmpYes X0.here hx rfl (pc0 := 72) (pc' := 90) rfl (hb hby at_72) rfl (feq hc72).2 (by decide) (by decide) ?_
  show Steps p.tables e below (T0.setTop (mkF m 90 #[.val (.long j0), .second, .val (.int i2), .val (.int (i2 &&& (7 : Int32))), .val (.long ((((i2.toUInt32 >>> ((3 : Int32) &&& 31).toUInt32).toInt32) &&& (3 : Int32)).toInt64)), .second, .unset, .unset, .unset, .unset] [])) _
  refine XS.iloadN X0.here hx rfl (hb hby at_90) rfl ?_
  show Steps p.tables e below (T0.setTop (mkF m 91 #[.val (.long j0), .second, .val (.int i2), .val (.int (i2 &&& (7 : Int32))), .val (.long ((((i2.toUInt32 >>> ((3 : Int32) &&& 31).toUInt32).toInt32) &&& (3 : Int32)).toInt64)), .second, .unset, .unset, .unset, .unset] [(.int (i2 &&& (7 : Int32)))])) _
  refine XS.iconst X0.here hx rfl (hb hby at_91) ?_
  show Steps p.tables e below (T0.setTop (mkF m 92 #[.val (.long j0), .second, .val (.int i2), .val (.int (i2 &&& (7 : Int32))), .val (.long ((((i2.toUInt32 >>> ((3 : Int32) &&& 31).toUInt32).toInt32) &&& (3 : Int32)).toInt64)), .second, .unset, .unset, .unset, .unset] [(.int (4 : Int32)), (.int (i2 &&& (7 : Int32)))])) _
  refine XS.icmpNo X0.here hx rfl (hb hby at_92) rfl (teq hc92).2 ?_
  show Steps p.tables e below (T0.setTop (mkF m 95 #[.val (.long j0), .second, .val (.int i2), .val (.int (i2 &&& (7 : Int32))), .val (.long ((((i2.toUInt32 >>> ((3 : Int32) &&& 31).toUInt32).toInt32) &&& (3 : Int32)).toInt64)), .second, .unset, .unset, .unset, .unset] [])) _
  refine X0.ldc2Long hx hown (mvT hZ (hw _ (List.mem_of_getElem? (i := 18) rfl))) (g := (mkF m 95 #[.val (.long j0), .second, .val (.int i2), .val (.int (i2 &&& (7 : Int32))), .val (.long ((((i2.toUInt32 >>> ((3 : Int32) &&& 31).toUInt32).toInt32) &&& (3 : Int32)).toInt64)), .second, .unset, .unset, .unset, .unset] [])) rfl (hb hby at_95) _ ?_
  show Steps p.tables e below (T0.setTop (mkF m 98 #[.val (.long j0), .second, .val (.int i2), .val (.int (i2 &&& (7 : Int32))), .val (.long ((((i2.toUInt32 >>> ((3 : Int32) &&& 31).toUInt32).toInt32) &&& (3 : Int32)).toInt64)), .second, .unset, .unset, .unset, .unset] [(.long (-9223372036854775808 : Int64))])) _
  refine XS.lload X0.here hx rfl (hb hby at_98) rfl ?_
  show Steps p.tables e below (T0.setTop (mkF m 100 #[.val (.long j0), .second, .val (.int i2), .val (.int (i2 &&& (7 : Int32))), .val (.long ((((i2.toUInt32 >>> ((3 : Int32) &&& 31).toUInt32).toInt32) &&& (3 : Int32)).toInt64)), .second, .unset, .unset, .unset, .unset] [(.long ((((i2.toUInt32 >>> ((3 : Int32) &&& 31).toUInt32).toInt32) &&& (3 : Int32)).toInt64)), (.long (-9223372036854775808 : Int64))])) _
  refine XS.ladd X0.here hx rfl (hb hby at_100) rfl ?_
  show Steps p.tables e below (T0.setTop (mkF m 101 #[.val (.long j0), .second, .val (.int i2), .val (.int (i2 &&& (7 : Int32))), .val (.long ((((i2.toUInt32 >>> ((3 : Int32) &&& 31).toUInt32).toInt32) &&& (3 : Int32)).toInt64)), .second, .unset, .unset, .unset, .unset] [(.long ((-9223372036854775808 : Int64) + ((((i2.toUInt32 >>> ((3 : Int32) &&& 31).toUInt32).toInt32) &&& (3 : Int32)).toInt64)))])) _
  refine XS.lstore X0.here hx rfl (hb hby at_101) rfl (l' := #[.val (.long j0), .second, .val (.int i2), .val (.int (i2 &&& (7 : Int32))), .val (.long ((((i2.toUInt32 >>> ((3 : Int32) &&& 31).toUInt32).toInt32) &&& (3 : Int32)).toInt64)), .second, .val (.long ((-9223372036854775808 : Int64) + ((((i2.toUInt32 >>> ((3 : Int32) &&& 31).toUInt32).toInt32) &&& (3 : Int32)).toInt64))), .second, .unset, .unset]) rfl ?_
  show Steps p.tables e below (T0.setTop (mkF m 103 #[.val (.long j0), .second, .val (.int i2), .val (.int (i2 &&& (7 : Int32))), .val (.long ((((i2.toUInt32 >>> ((3 : Int32) &&& 31).toUInt32).toInt32) &&& (3 : Int32)).toInt64)), .second, .val (.long ((-9223372036854775808 : Int64) + ((((i2.toUInt32 >>> ((3 : Int32) &&& 31).toUInt32).toInt32) &&& (3 : Int32)).toInt64))), .second, .unset, .unset] [])) _
  refine XS.goto X0.here hx rfl (pc0 := 103) (pc' := 125) rfl (hb hby at_103) (by decide) (by decide) ?_
  exact kt

set_option maxRecDepth 65536 in
set_option maxHeartbeats 40000000 in
theorem sa_5 {p : Program} {l : Launch} {e : Env} {R : Room} {s : State} {m : MethodId} {args : Array Value} {below : List Frame} {meth : Method} {c : Code} {T0 : State} {locs : List Loc} {cells slots : Nat} {Z : State} {a0 : Array Value} {h0 : Heap} (j0 : Int64) (i2 : Int32)
    (X0 : Stand p l e R s m args below meth c T0 locs cells slots) (hx : p.tables.exec = Jvm.exec) (hZ : Z.Warmed39 s.vm) (hw : ∀ d ∈ tables_1, d.before a0 Z = true) (hby : c.code = code) (hml : c.maxLocals = 10) (hown : s.vm.findClass "com/example/advent_ledger/adventledger/BadgeEarnedByPinLaw" = some m.cls) (e0 : T0.heap = h0) (hc14 : ¬ ((i2 &&& (7 : Int32)) = (0 : Int32))) (hc32 : ¬ ((i2 &&& (7 : Int32)) = (1 : Int32))) (hc52 : ¬ ((i2 &&& (7 : Int32)) = (2 : Int32))) (hc72 : ¬ ((i2 &&& (7 : Int32)) = (3 : Int32))) (hc92 : ¬ ((i2 &&& (7 : Int32)) = (4 : Int32))) (hc108 : (i2 &&& (7 : Int32)) = (5 : Int32)) :
    ∃ (T' : State), Stand p l e R s m args below meth c T' locs cells slots ∧ T'.heap = h0 ∧
      ∀ target, Steps p.tables e below (T'.setTop (mkF m 125 #[.val (.long j0), .second, .val (.int i2), .val (.int (i2 &&& (7 : Int32))), .val (.long ((((i2.toUInt32 >>> ((3 : Int32) &&& 31).toUInt32).toInt32) &&& (3 : Int32)).toInt64)), .second, .val (.long ((9223372036854775807 : Int64) - ((((i2.toUInt32 >>> ((3 : Int32) &&& 31).toUInt32).toInt32) &&& (3 : Int32)).toInt64))), .second, .unset, .unset] [])) target → Steps p.tables e below (T0.setTop (mkF m 0 #[.val (.long j0), .second, .val (.int i2), .unset, .unset, .unset, .unset, .unset, .unset, .unset] [])) target := by

  refine ⟨T0, X0, e0, fun target kt => ?_⟩
  show Steps p.tables e below (T0.setTop (mkF m 0 #[.val (.long j0), .second, .val (.int i2), .unset, .unset, .unset, .unset, .unset, .unset, .unset] [])) _
  refine XS.iloadN X0.here hx rfl (hb hby at_0) rfl ?_
  show Steps p.tables e below (T0.setTop (mkF m 1 #[.val (.long j0), .second, .val (.int i2), .unset, .unset, .unset, .unset, .unset, .unset, .unset] [(.int i2)])) _
  refine XS.bipush X0.here hx rfl (hb hby at_1) ?_
  show Steps p.tables e below (T0.setTop (mkF m 3 #[.val (.long j0), .second, .val (.int i2), .unset, .unset, .unset, .unset, .unset, .unset, .unset] [(.int (7 : Int32)), (.int i2)])) _
  refine XS.iand X0.here hx rfl (hb hby at_3) rfl ?_
  show Steps p.tables e below (T0.setTop (mkF m 4 #[.val (.long j0), .second, .val (.int i2), .unset, .unset, .unset, .unset, .unset, .unset, .unset] [(.int (i2 &&& (7 : Int32)))])) _
  refine XS.istoreN X0.here hx rfl (hb hby at_4) rfl (l' := #[.val (.long j0), .second, .val (.int i2), .val (.int (i2 &&& (7 : Int32))), .unset, .unset, .unset, .unset, .unset, .unset]) rfl ?_
  show Steps p.tables e below (T0.setTop (mkF m 5 #[.val (.long j0), .second, .val (.int i2), .val (.int (i2 &&& (7 : Int32))), .unset, .unset, .unset, .unset, .unset, .unset] [])) _
  refine XS.iloadN X0.here hx rfl (hb hby at_5) rfl ?_
  show Steps p.tables e below (T0.setTop (mkF m 6 #[.val (.long j0), .second, .val (.int i2), .val (.int (i2 &&& (7 : Int32))), .unset, .unset, .unset, .unset, .unset, .unset] [(.int i2)])) _
  refine XS.iconst X0.here hx rfl (hb hby at_6) ?_
  show Steps p.tables e below (T0.setTop (mkF m 7 #[.val (.long j0), .second, .val (.int i2), .val (.int (i2 &&& (7 : Int32))), .unset, .unset, .unset, .unset, .unset, .unset] [(.int (3 : Int32)), (.int i2)])) _
  refine XS.iushr X0.here hx rfl (hb hby at_7) rfl ?_
  show Steps p.tables e below (T0.setTop (mkF m 8 #[.val (.long j0), .second, .val (.int i2), .val (.int (i2 &&& (7 : Int32))), .unset, .unset, .unset, .unset, .unset, .unset] [(.int ((i2.toUInt32 >>> ((3 : Int32) &&& 31).toUInt32).toInt32))])) _
  refine XS.iconst X0.here hx rfl (hb hby at_8) ?_
  show Steps p.tables e below (T0.setTop (mkF m 9 #[.val (.long j0), .second, .val (.int i2), .val (.int (i2 &&& (7 : Int32))), .unset, .unset, .unset, .unset, .unset, .unset] [(.int (3 : Int32)), (.int ((i2.toUInt32 >>> ((3 : Int32) &&& 31).toUInt32).toInt32))])) _
  refine XS.iand X0.here hx rfl (hb hby at_9) rfl ?_
  show Steps p.tables e below (T0.setTop (mkF m 10 #[.val (.long j0), .second, .val (.int i2), .val (.int (i2 &&& (7 : Int32))), .unset, .unset, .unset, .unset, .unset, .unset] [(.int (((i2.toUInt32 >>> ((3 : Int32) &&& 31).toUInt32).toInt32) &&& (3 : Int32)))])) _
  refine XS.i2l X0.here hx rfl (hb hby at_10) rfl ?_
  show Steps p.tables e below (T0.setTop (mkF m 11 #[.val (.long j0), .second, .val (.int i2), .val (.int (i2 &&& (7 : Int32))), .unset, .unset, .unset, .unset, .unset, .unset] [(.long ((((i2.toUInt32 >>> ((3 : Int32) &&& 31).toUInt32).toInt32) &&& (3 : Int32)).toInt64))])) _
  refine XS.lstore X0.here hx rfl (hb hby at_11) rfl (l' := #[.val (.long j0), .second, .val (.int i2), .val (.int (i2 &&& (7 : Int32))), .val (.long ((((i2.toUInt32 >>> ((3 : Int32) &&& 31).toUInt32).toInt32) &&& (3 : Int32)).toInt64)), .second, .unset, .unset, .unset, .unset]) rfl ?_
  show Steps p.tables e below (T0.setTop (mkF m 13 #[.val (.long j0), .second, .val (.int i2), .val (.int (i2 &&& (7 : Int32))), .val (.long ((((i2.toUInt32 >>> ((3 : Int32) &&& 31).toUInt32).toInt32) &&& (3 : Int32)).toInt64)), .second, .unset, .unset, .unset, .unset] [])) _
  refine XS.iloadN X0.here hx rfl (hb hby at_13) rfl ?_
  show Steps p.tables e below (T0.setTop (mkF m 14 #[.val (.long j0), .second, .val (.int i2), .val (.int (i2 &&& (7 : Int32))), .val (.long ((((i2.toUInt32 >>> ((3 : Int32) &&& 31).toUInt32).toInt32) &&& (3 : Int32)).toInt64)), .second, .unset, .unset, .unset, .unset] [(.int (i2 &&& (7 : Int32)))])) _
  refine XS.ifYes X0.here hx rfl (pc0 := 14) (pc' := 30) rfl (hb hby at_14) rfl ((if0 _ _).trans (feq hc14).2) (by decide) (by decide) ?_
  show Steps p.tables e below (T0.setTop (mkF m 30 #[.val (.long j0), .second, .val (.int i2), .val (.int (i2 &&& (7 : Int32))), .val (.long ((((i2.toUInt32 >>> ((3 : Int32) &&& 31).toUInt32).toInt32) &&& (3 : Int32)).toInt64)), .second, .unset, .unset, .unset, .unset] [])) _
  refine XS.iloadN X0.here hx rfl (hb hby at_30) rfl ?_
  show Steps p.tables e below (T0.setTop (mkF m 31 #[.val (.long j0), .second, .val (.int i2), .val (.int (i2 &&& (7 : Int32))), .val (.long ((((i2.toUInt32 >>> ((3 : Int32) &&& 31).toUInt32).toInt32) &&& (3 : Int32)).toInt64)), .second, .unset, .unset, .unset, .unset] [(.int (i2 &&& (7 : Int32)))])) _
  refine XS.iconst X0.here hx rfl (hb hby at_31) ?_
  show Steps p.tables e below (T0.setTop (mkF m 32 #[.val (.long j0), .second, .val (.int i2), .val (.int (i2 &&& (7 : Int32))), .val (.long ((((i2.toUInt32 >>> ((3 : Int32) &&& 31).toUInt32).toInt32) &&& (3 : Int32)).toInt64)), .second, .unset, .unset, .unset, .unset] [(.int (1 : Int32)), (.int (i2 &&& (7 : Int32)))])) _
  refine XS.icmpYes X0.here hx rfl (pc0 := 32) (pc' := 50) rfl (hb hby at_32) rfl (feq hc32).2 (by decide) (by decide) ?_
  show Steps p.tables e below (T0.setTop (mkF m 50 #[.val (.long j0), .second, .val (.int i2), .val (.int (i2 &&& (7 : Int32))), .val (.long ((((i2.toUInt32 >>> ((3 : Int32) &&& 31).toUInt32).toInt32) &&& (3 : Int32)).toInt64)), .second, .unset, .unset, .unset, .unset] [])) _
  refine XS.iloadN X0.here hx rfl (hb hby at_50) rfl ?_
  show Steps p.tables e below (T0.setTop (mkF m 51 #[.val (.long j0), .second, .val (.int i2), .val (.int (i2 &&& (7 : Int32))), .val (.long ((((i2.toUInt32 >>> ((3 : Int32) &&& 31).toUInt32).toInt32) &&& (3 : Int32)).toInt64)), .second, .unset, .unset, .unset, .unset] [(.int (i2 &&& (7 : Int32)))])) _
  refine XS.iconst X0.here hx rfl (hb hby at_51) ?_
  show Steps p.tables e below (T0.setTop (mkF m 52 #[.val (.long j0), .second, .val (.int i2), .val (.int (i2 &&& (7 : Int32))), .val (.long ((((i2.toUInt32 >>> ((3 : Int32) &&& 31).toUInt32).toInt32) &&& (3 : Int32)).toInt64)), .second, .unset, .unset, .unset, .unset] [(.int (2 : Int32)), (.int (i2 &&& (7 : Int32)))])) _
  refine XS.icmpYes X0.here hx rfl (pc0 := 52) (pc' := 70) rfl (hb hby at_52) rfl (feq hc52).2 (by decide) (by decide) ?_
  show Steps p.tables e below (T0.setTop (mkF m 70 #[.val (.long j0), .second, .val (.int i2), .val (.int (i2 &&& (7 : Int32))), .val (.long ((((i2.toUInt32 >>> ((3 : Int32) &&& 31).toUInt32).toInt32) &&& (3 : Int32)).toInt64)), .second, .unset, .unset, .unset, .unset] [])) _
  refine XS.iloadN X0.here hx rfl (hb hby at_70) rfl ?_
  show Steps p.tables e below (T0.setTop (mkF m 71 #[.val (.long j0), .second, .val (.int i2), .val (.int (i2 &&& (7 : Int32))), .val (.long ((((i2.toUInt32 >>> ((3 : Int32) &&& 31).toUInt32).toInt32) &&& (3 : Int32)).toInt64)), .second, .unset, .unset, .unset, .unset] [(.int (i2 &&& (7 : Int32)))])) _
  refine XS.iconst X0.here hx rfl (hb hby at_71) ?_
  show Steps p.tables e below (T0.setTop (mkF m 72 #[.val (.long j0), .second, .val (.int i2), .val (.int (i2 &&& (7 : Int32))), .val (.long ((((i2.toUInt32 >>> ((3 : Int32) &&& 31).toUInt32).toInt32) &&& (3 : Int32)).toInt64)), .second, .unset, .unset, .unset, .unset] [(.int (3 : Int32)), (.int (i2 &&& (7 : Int32)))])) _
  refine XS.icmpYes X0.here hx rfl (pc0 := 72) (pc' := 90) rfl (hb hby at_72) rfl (feq hc72).2 (by decide) (by decide) ?_
  show Steps p.tables e below (T0.setTop (mkF m 90 #[.val (.long j0), .second, .val (.int i2), .val (.int (i2 &&& (7 : Int32))), .val (.long ((((i2.toUInt32 >>> ((3 : Int32) &&& 31).toUInt32).toInt32) &&& (3 : Int32)).toInt64)), .second, .unset, .unset, .unset, .unset] [])) _
  refine XS.iloadN X0.here hx rfl (hb hby at_90) rfl ?_
  show Steps p.tables e below (T0.setTop (mkF m 91 #[.val (.long j0), .second, .val (.int i2), .val (.int (i2 &&& (7 : Int32))), .val (.long ((((i2.toUInt32 >>> ((3 : Int32) &&& 31).toUInt32).toInt32) &&& (3 : Int32)).toInt64)), .second, .unset, .unset, .unset, .unset] [(.int (i2 &&& (7 : Int32)))])) _
  refine XS.iconst X0.here hx rfl (hb hby at_91) ?_
  show Steps p.tables e below (T0.setTop (mkF m 92 #[.val (.long j0), .second, .val (.int i2), .val (.int (i2 &&& (7 : Int32))), .val (.long ((((i2.toUInt32 >>> ((3 : Int32) &&& 31).toUInt32).toInt32) &&& (3 : Int32)).toInt64)), .second, .unset, .unset, .unset, .unset] [(.int (4 : Int32)), (.int (i2 &&& (7 : Int32)))])) _
  refine XS.icmpYes X0.here hx rfl (pc0 := 92) (pc' := 106) rfl (hb hby at_92) rfl (feq hc92).2 (by decide) (by decide) ?_
  show Steps p.tables e below (T0.setTop (mkF m 106 #[.val (.long j0), .second, .val (.int i2), .val (.int (i2 &&& (7 : Int32))), .val (.long ((((i2.toUInt32 >>> ((3 : Int32) &&& 31).toUInt32).toInt32) &&& (3 : Int32)).toInt64)), .second, .unset, .unset, .unset, .unset] [])) _
  refine XS.iloadN X0.here hx rfl (hb hby at_106) rfl ?_
  show Steps p.tables e below (T0.setTop (mkF m 107 #[.val (.long j0), .second, .val (.int i2), .val (.int (i2 &&& (7 : Int32))), .val (.long ((((i2.toUInt32 >>> ((3 : Int32) &&& 31).toUInt32).toInt32) &&& (3 : Int32)).toInt64)), .second, .unset, .unset, .unset, .unset] [(.int (i2 &&& (7 : Int32)))])) _
  refine XS.iconst X0.here hx rfl (hb hby at_107) ?_
  show Steps p.tables e below (T0.setTop (mkF m 108 #[.val (.long j0), .second, .val (.int i2), .val (.int (i2 &&& (7 : Int32))), .val (.long ((((i2.toUInt32 >>> ((3 : Int32) &&& 31).toUInt32).toInt32) &&& (3 : Int32)).toInt64)), .second, .unset, .unset, .unset, .unset] [(.int (5 : Int32)), (.int (i2 &&& (7 : Int32)))])) _
  refine XS.icmpNo X0.here hx rfl (hb hby at_108) rfl (teq hc108).2 ?_
  show Steps p.tables e below (T0.setTop (mkF m 111 #[.val (.long j0), .second, .val (.int i2), .val (.int (i2 &&& (7 : Int32))), .val (.long ((((i2.toUInt32 >>> ((3 : Int32) &&& 31).toUInt32).toInt32) &&& (3 : Int32)).toInt64)), .second, .unset, .unset, .unset, .unset] [])) _
  refine X0.ldc2Long hx hown (mvT hZ (hw _ (List.mem_of_getElem? (i := 22) rfl))) (g := (mkF m 111 #[.val (.long j0), .second, .val (.int i2), .val (.int (i2 &&& (7 : Int32))), .val (.long ((((i2.toUInt32 >>> ((3 : Int32) &&& 31).toUInt32).toInt32) &&& (3 : Int32)).toInt64)), .second, .unset, .unset, .unset, .unset] [])) rfl (hb hby at_111) _ ?_
  show Steps p.tables e below (T0.setTop (mkF m 114 #[.val (.long j0), .second, .val (.int i2), .val (.int (i2 &&& (7 : Int32))), .val (.long ((((i2.toUInt32 >>> ((3 : Int32) &&& 31).toUInt32).toInt32) &&& (3 : Int32)).toInt64)), .second, .unset, .unset, .unset, .unset] [(.long (9223372036854775807 : Int64))])) _
  refine XS.lload X0.here hx rfl (hb hby at_114) rfl ?_
  show Steps p.tables e below (T0.setTop (mkF m 116 #[.val (.long j0), .second, .val (.int i2), .val (.int (i2 &&& (7 : Int32))), .val (.long ((((i2.toUInt32 >>> ((3 : Int32) &&& 31).toUInt32).toInt32) &&& (3 : Int32)).toInt64)), .second, .unset, .unset, .unset, .unset] [(.long ((((i2.toUInt32 >>> ((3 : Int32) &&& 31).toUInt32).toInt32) &&& (3 : Int32)).toInt64)), (.long (9223372036854775807 : Int64))])) _
  refine XS.lsub X0.here hx rfl (hb hby at_116) rfl ?_
  show Steps p.tables e below (T0.setTop (mkF m 117 #[.val (.long j0), .second, .val (.int i2), .val (.int (i2 &&& (7 : Int32))), .val (.long ((((i2.toUInt32 >>> ((3 : Int32) &&& 31).toUInt32).toInt32) &&& (3 : Int32)).toInt64)), .second, .unset, .unset, .unset, .unset] [(.long ((9223372036854775807 : Int64) - ((((i2.toUInt32 >>> ((3 : Int32) &&& 31).toUInt32).toInt32) &&& (3 : Int32)).toInt64)))])) _
  refine XS.lstore X0.here hx rfl (hb hby at_117) rfl (l' := #[.val (.long j0), .second, .val (.int i2), .val (.int (i2 &&& (7 : Int32))), .val (.long ((((i2.toUInt32 >>> ((3 : Int32) &&& 31).toUInt32).toInt32) &&& (3 : Int32)).toInt64)), .second, .val (.long ((9223372036854775807 : Int64) - ((((i2.toUInt32 >>> ((3 : Int32) &&& 31).toUInt32).toInt32) &&& (3 : Int32)).toInt64))), .second, .unset, .unset]) rfl ?_
  show Steps p.tables e below (T0.setTop (mkF m 119 #[.val (.long j0), .second, .val (.int i2), .val (.int (i2 &&& (7 : Int32))), .val (.long ((((i2.toUInt32 >>> ((3 : Int32) &&& 31).toUInt32).toInt32) &&& (3 : Int32)).toInt64)), .second, .val (.long ((9223372036854775807 : Int64) - ((((i2.toUInt32 >>> ((3 : Int32) &&& 31).toUInt32).toInt32) &&& (3 : Int32)).toInt64))), .second, .unset, .unset] [])) _
  refine XS.goto X0.here hx rfl (pc0 := 119) (pc' := 125) rfl (hb hby at_119) (by decide) (by decide) ?_
  exact kt

set_option maxRecDepth 65536 in
set_option maxHeartbeats 40000000 in
theorem sa_6 {p : Program} {l : Launch} {e : Env} {R : Room} {s : State} {m : MethodId} {args : Array Value} {below : List Frame} {meth : Method} {c : Code} {T0 : State} {locs : List Loc} {cells slots : Nat} {Z : State} {a0 : Array Value} {h0 : Heap} (j0 : Int64) (i2 : Int32)
    (X0 : Stand p l e R s m args below meth c T0 locs cells slots) (hx : p.tables.exec = Jvm.exec) (hZ : Z.Warmed39 s.vm) (hw : ∀ d ∈ tables_1, d.before a0 Z = true) (hby : c.code = code) (hml : c.maxLocals = 10) (hown : s.vm.findClass "com/example/advent_ledger/adventledger/BadgeEarnedByPinLaw" = some m.cls) (e0 : T0.heap = h0) (hc14 : ¬ ((i2 &&& (7 : Int32)) = (0 : Int32))) (hc32 : ¬ ((i2 &&& (7 : Int32)) = (1 : Int32))) (hc52 : ¬ ((i2 &&& (7 : Int32)) = (2 : Int32))) (hc72 : ¬ ((i2 &&& (7 : Int32)) = (3 : Int32))) (hc92 : ¬ ((i2 &&& (7 : Int32)) = (4 : Int32))) (hc108 : ¬ ((i2 &&& (7 : Int32)) = (5 : Int32))) :
    ∃ (T' : State), Stand p l e R s m args below meth c T' locs cells slots ∧ T'.heap = h0 ∧
      ∀ target, Steps p.tables e below (T'.setTop (mkF m 125 #[.val (.long j0), .second, .val (.int i2), .val (.int (i2 &&& (7 : Int32))), .val (.long ((((i2.toUInt32 >>> ((3 : Int32) &&& 31).toUInt32).toInt32) &&& (3 : Int32)).toInt64)), .second, .val (.long j0), .second, .unset, .unset] [])) target → Steps p.tables e below (T0.setTop (mkF m 0 #[.val (.long j0), .second, .val (.int i2), .unset, .unset, .unset, .unset, .unset, .unset, .unset] [])) target := by

  refine ⟨T0, X0, e0, fun target kt => ?_⟩
  show Steps p.tables e below (T0.setTop (mkF m 0 #[.val (.long j0), .second, .val (.int i2), .unset, .unset, .unset, .unset, .unset, .unset, .unset] [])) _
  refine XS.iloadN X0.here hx rfl (hb hby at_0) rfl ?_
  show Steps p.tables e below (T0.setTop (mkF m 1 #[.val (.long j0), .second, .val (.int i2), .unset, .unset, .unset, .unset, .unset, .unset, .unset] [(.int i2)])) _
  refine XS.bipush X0.here hx rfl (hb hby at_1) ?_
  show Steps p.tables e below (T0.setTop (mkF m 3 #[.val (.long j0), .second, .val (.int i2), .unset, .unset, .unset, .unset, .unset, .unset, .unset] [(.int (7 : Int32)), (.int i2)])) _
  refine XS.iand X0.here hx rfl (hb hby at_3) rfl ?_
  show Steps p.tables e below (T0.setTop (mkF m 4 #[.val (.long j0), .second, .val (.int i2), .unset, .unset, .unset, .unset, .unset, .unset, .unset] [(.int (i2 &&& (7 : Int32)))])) _
  refine XS.istoreN X0.here hx rfl (hb hby at_4) rfl (l' := #[.val (.long j0), .second, .val (.int i2), .val (.int (i2 &&& (7 : Int32))), .unset, .unset, .unset, .unset, .unset, .unset]) rfl ?_
  show Steps p.tables e below (T0.setTop (mkF m 5 #[.val (.long j0), .second, .val (.int i2), .val (.int (i2 &&& (7 : Int32))), .unset, .unset, .unset, .unset, .unset, .unset] [])) _
  refine XS.iloadN X0.here hx rfl (hb hby at_5) rfl ?_
  show Steps p.tables e below (T0.setTop (mkF m 6 #[.val (.long j0), .second, .val (.int i2), .val (.int (i2 &&& (7 : Int32))), .unset, .unset, .unset, .unset, .unset, .unset] [(.int i2)])) _
  refine XS.iconst X0.here hx rfl (hb hby at_6) ?_
  show Steps p.tables e below (T0.setTop (mkF m 7 #[.val (.long j0), .second, .val (.int i2), .val (.int (i2 &&& (7 : Int32))), .unset, .unset, .unset, .unset, .unset, .unset] [(.int (3 : Int32)), (.int i2)])) _
  refine XS.iushr X0.here hx rfl (hb hby at_7) rfl ?_
  show Steps p.tables e below (T0.setTop (mkF m 8 #[.val (.long j0), .second, .val (.int i2), .val (.int (i2 &&& (7 : Int32))), .unset, .unset, .unset, .unset, .unset, .unset] [(.int ((i2.toUInt32 >>> ((3 : Int32) &&& 31).toUInt32).toInt32))])) _
  refine XS.iconst X0.here hx rfl (hb hby at_8) ?_
  show Steps p.tables e below (T0.setTop (mkF m 9 #[.val (.long j0), .second, .val (.int i2), .val (.int (i2 &&& (7 : Int32))), .unset, .unset, .unset, .unset, .unset, .unset] [(.int (3 : Int32)), (.int ((i2.toUInt32 >>> ((3 : Int32) &&& 31).toUInt32).toInt32))])) _
  refine XS.iand X0.here hx rfl (hb hby at_9) rfl ?_
  show Steps p.tables e below (T0.setTop (mkF m 10 #[.val (.long j0), .second, .val (.int i2), .val (.int (i2 &&& (7 : Int32))), .unset, .unset, .unset, .unset, .unset, .unset] [(.int (((i2.toUInt32 >>> ((3 : Int32) &&& 31).toUInt32).toInt32) &&& (3 : Int32)))])) _
  refine XS.i2l X0.here hx rfl (hb hby at_10) rfl ?_
  show Steps p.tables e below (T0.setTop (mkF m 11 #[.val (.long j0), .second, .val (.int i2), .val (.int (i2 &&& (7 : Int32))), .unset, .unset, .unset, .unset, .unset, .unset] [(.long ((((i2.toUInt32 >>> ((3 : Int32) &&& 31).toUInt32).toInt32) &&& (3 : Int32)).toInt64))])) _
  refine XS.lstore X0.here hx rfl (hb hby at_11) rfl (l' := #[.val (.long j0), .second, .val (.int i2), .val (.int (i2 &&& (7 : Int32))), .val (.long ((((i2.toUInt32 >>> ((3 : Int32) &&& 31).toUInt32).toInt32) &&& (3 : Int32)).toInt64)), .second, .unset, .unset, .unset, .unset]) rfl ?_
  show Steps p.tables e below (T0.setTop (mkF m 13 #[.val (.long j0), .second, .val (.int i2), .val (.int (i2 &&& (7 : Int32))), .val (.long ((((i2.toUInt32 >>> ((3 : Int32) &&& 31).toUInt32).toInt32) &&& (3 : Int32)).toInt64)), .second, .unset, .unset, .unset, .unset] [])) _
  refine XS.iloadN X0.here hx rfl (hb hby at_13) rfl ?_
  show Steps p.tables e below (T0.setTop (mkF m 14 #[.val (.long j0), .second, .val (.int i2), .val (.int (i2 &&& (7 : Int32))), .val (.long ((((i2.toUInt32 >>> ((3 : Int32) &&& 31).toUInt32).toInt32) &&& (3 : Int32)).toInt64)), .second, .unset, .unset, .unset, .unset] [(.int (i2 &&& (7 : Int32)))])) _
  refine XS.ifYes X0.here hx rfl (pc0 := 14) (pc' := 30) rfl (hb hby at_14) rfl ((if0 _ _).trans (feq hc14).2) (by decide) (by decide) ?_
  show Steps p.tables e below (T0.setTop (mkF m 30 #[.val (.long j0), .second, .val (.int i2), .val (.int (i2 &&& (7 : Int32))), .val (.long ((((i2.toUInt32 >>> ((3 : Int32) &&& 31).toUInt32).toInt32) &&& (3 : Int32)).toInt64)), .second, .unset, .unset, .unset, .unset] [])) _
  refine XS.iloadN X0.here hx rfl (hb hby at_30) rfl ?_
  show Steps p.tables e below (T0.setTop (mkF m 31 #[.val (.long j0), .second, .val (.int i2), .val (.int (i2 &&& (7 : Int32))), .val (.long ((((i2.toUInt32 >>> ((3 : Int32) &&& 31).toUInt32).toInt32) &&& (3 : Int32)).toInt64)), .second, .unset, .unset, .unset, .unset] [(.int (i2 &&& (7 : Int32)))])) _
  refine XS.iconst X0.here hx rfl (hb hby at_31) ?_
  show Steps p.tables e below (T0.setTop (mkF m 32 #[.val (.long j0), .second, .val (.int i2), .val (.int (i2 &&& (7 : Int32))), .val (.long ((((i2.toUInt32 >>> ((3 : Int32) &&& 31).toUInt32).toInt32) &&& (3 : Int32)).toInt64)), .second, .unset, .unset, .unset, .unset] [(.int (1 : Int32)), (.int (i2 &&& (7 : Int32)))])) _
  refine XS.icmpYes X0.here hx rfl (pc0 := 32) (pc' := 50) rfl (hb hby at_32) rfl (feq hc32).2 (by decide) (by decide) ?_
  show Steps p.tables e below (T0.setTop (mkF m 50 #[.val (.long j0), .second, .val (.int i2), .val (.int (i2 &&& (7 : Int32))), .val (.long ((((i2.toUInt32 >>> ((3 : Int32) &&& 31).toUInt32).toInt32) &&& (3 : Int32)).toInt64)), .second, .unset, .unset, .unset, .unset] [])) _
  refine XS.iloadN X0.here hx rfl (hb hby at_50) rfl ?_
  show Steps p.tables e below (T0.setTop (mkF m 51 #[.val (.long j0), .second, .val (.int i2), .val (.int (i2 &&& (7 : Int32))), .val (.long ((((i2.toUInt32 >>> ((3 : Int32) &&& 31).toUInt32).toInt32) &&& (3 : Int32)).toInt64)), .second, .unset, .unset, .unset, .unset] [(.int (i2 &&& (7 : Int32)))])) _
  refine XS.iconst X0.here hx rfl (hb hby at_51) ?_
  show Steps p.tables e below (T0.setTop (mkF m 52 #[.val (.long j0), .second, .val (.int i2), .val (.int (i2 &&& (7 : Int32))), .val (.long ((((i2.toUInt32 >>> ((3 : Int32) &&& 31).toUInt32).toInt32) &&& (3 : Int32)).toInt64)), .second, .unset, .unset, .unset, .unset] [(.int (2 : Int32)), (.int (i2 &&& (7 : Int32)))])) _
  refine XS.icmpYes X0.here hx rfl (pc0 := 52) (pc' := 70) rfl (hb hby at_52) rfl (feq hc52).2 (by decide) (by decide) ?_
  show Steps p.tables e below (T0.setTop (mkF m 70 #[.val (.long j0), .second, .val (.int i2), .val (.int (i2 &&& (7 : Int32))), .val (.long ((((i2.toUInt32 >>> ((3 : Int32) &&& 31).toUInt32).toInt32) &&& (3 : Int32)).toInt64)), .second, .unset, .unset, .unset, .unset] [])) _
  refine XS.iloadN X0.here hx rfl (hb hby at_70) rfl ?_
  show Steps p.tables e below (T0.setTop (mkF m 71 #[.val (.long j0), .second, .val (.int i2), .val (.int (i2 &&& (7 : Int32))), .val (.long ((((i2.toUInt32 >>> ((3 : Int32) &&& 31).toUInt32).toInt32) &&& (3 : Int32)).toInt64)), .second, .unset, .unset, .unset, .unset] [(.int (i2 &&& (7 : Int32)))])) _
  refine XS.iconst X0.here hx rfl (hb hby at_71) ?_
  show Steps p.tables e below (T0.setTop (mkF m 72 #[.val (.long j0), .second, .val (.int i2), .val (.int (i2 &&& (7 : Int32))), .val (.long ((((i2.toUInt32 >>> ((3 : Int32) &&& 31).toUInt32).toInt32) &&& (3 : Int32)).toInt64)), .second, .unset, .unset, .unset, .unset] [(.int (3 : Int32)), (.int (i2 &&& (7 : Int32)))])) _
  refine XS.icmpYes X0.here hx rfl (pc0 := 72) (pc' := 90) rfl (hb hby at_72) rfl (feq hc72).2 (by decide) (by decide) ?_
  show Steps p.tables e below (T0.setTop (mkF m 90 #[.val (.long j0), .second, .val (.int i2), .val (.int (i2 &&& (7 : Int32))), .val (.long ((((i2.toUInt32 >>> ((3 : Int32) &&& 31).toUInt32).toInt32) &&& (3 : Int32)).toInt64)), .second, .unset, .unset, .unset, .unset] [])) _
  refine XS.iloadN X0.here hx rfl (hb hby at_90) rfl ?_
  show Steps p.tables e below (T0.setTop (mkF m 91 #[.val (.long j0), .second, .val (.int i2), .val (.int (i2 &&& (7 : Int32))), .val (.long ((((i2.toUInt32 >>> ((3 : Int32) &&& 31).toUInt32).toInt32) &&& (3 : Int32)).toInt64)), .second, .unset, .unset, .unset, .unset] [(.int (i2 &&& (7 : Int32)))])) _
  refine XS.iconst X0.here hx rfl (hb hby at_91) ?_
  show Steps p.tables e below (T0.setTop (mkF m 92 #[.val (.long j0), .second, .val (.int i2), .val (.int (i2 &&& (7 : Int32))), .val (.long ((((i2.toUInt32 >>> ((3 : Int32) &&& 31).toUInt32).toInt32) &&& (3 : Int32)).toInt64)), .second, .unset, .unset, .unset, .unset] [(.int (4 : Int32)), (.int (i2 &&& (7 : Int32)))])) _
  refine XS.icmpYes X0.here hx rfl (pc0 := 92) (pc' := 106) rfl (hb hby at_92) rfl (feq hc92).2 (by decide) (by decide) ?_
  show Steps p.tables e below (T0.setTop (mkF m 106 #[.val (.long j0), .second, .val (.int i2), .val (.int (i2 &&& (7 : Int32))), .val (.long ((((i2.toUInt32 >>> ((3 : Int32) &&& 31).toUInt32).toInt32) &&& (3 : Int32)).toInt64)), .second, .unset, .unset, .unset, .unset] [])) _
  refine XS.iloadN X0.here hx rfl (hb hby at_106) rfl ?_
  show Steps p.tables e below (T0.setTop (mkF m 107 #[.val (.long j0), .second, .val (.int i2), .val (.int (i2 &&& (7 : Int32))), .val (.long ((((i2.toUInt32 >>> ((3 : Int32) &&& 31).toUInt32).toInt32) &&& (3 : Int32)).toInt64)), .second, .unset, .unset, .unset, .unset] [(.int (i2 &&& (7 : Int32)))])) _
  refine XS.iconst X0.here hx rfl (hb hby at_107) ?_
  show Steps p.tables e below (T0.setTop (mkF m 108 #[.val (.long j0), .second, .val (.int i2), .val (.int (i2 &&& (7 : Int32))), .val (.long ((((i2.toUInt32 >>> ((3 : Int32) &&& 31).toUInt32).toInt32) &&& (3 : Int32)).toInt64)), .second, .unset, .unset, .unset, .unset] [(.int (5 : Int32)), (.int (i2 &&& (7 : Int32)))])) _
  refine XS.icmpYes X0.here hx rfl (pc0 := 108) (pc' := 122) rfl (hb hby at_108) rfl (feq hc108).2 (by decide) (by decide) ?_
  show Steps p.tables e below (T0.setTop (mkF m 122 #[.val (.long j0), .second, .val (.int i2), .val (.int (i2 &&& (7 : Int32))), .val (.long ((((i2.toUInt32 >>> ((3 : Int32) &&& 31).toUInt32).toInt32) &&& (3 : Int32)).toInt64)), .second, .unset, .unset, .unset, .unset] [])) _
  refine XS.lloadN X0.here hx rfl (hb hby at_122) rfl ?_
  show Steps p.tables e below (T0.setTop (mkF m 123 #[.val (.long j0), .second, .val (.int i2), .val (.int (i2 &&& (7 : Int32))), .val (.long ((((i2.toUInt32 >>> ((3 : Int32) &&& 31).toUInt32).toInt32) &&& (3 : Int32)).toInt64)), .second, .unset, .unset, .unset, .unset] [(.long j0)])) _
  refine XS.lstore X0.here hx rfl (hb hby at_123) rfl (l' := #[.val (.long j0), .second, .val (.int i2), .val (.int (i2 &&& (7 : Int32))), .val (.long ((((i2.toUInt32 >>> ((3 : Int32) &&& 31).toUInt32).toInt32) &&& (3 : Int32)).toInt64)), .second, .val (.long j0), .second, .unset, .unset]) rfl ?_
  exact kt

theorem sa {p : Program} {l : Launch} {e : Env} {R : Room} {s : State} {m : MethodId} {args : Array Value} {below : List Frame} {meth : Method} {c : Code} {T0 : State} {locs : List Loc} {cells slots : Nat} {Z : State} {a0 : Array Value} {h0 : Heap} (j0 : Int64) (i2 : Int32) (X0 : Stand p l e R s m args below meth c T0 locs cells slots) (hx : p.tables.exec = Jvm.exec) (hZ : Z.Warmed39 s.vm) (hw : ∀ d ∈ tables_1, d.before a0 Z = true) (hby : c.code = code) (hml : c.maxLocals = 10) (hown : s.vm.findClass "com/example/advent_ledger/adventledger/BadgeEarnedByPinLaw" = some m.cls) (e0 : T0.heap = h0) :
    ∃ (t : Int64) (T' : State), Stand p l e R s m args below meth c T' locs cells slots ∧ T'.heap = h0 ∧
      ∀ target, Steps p.tables e below (T'.setTop (mkF m 125 #[.val (.long j0), .second, .val (.int i2), .val (.int (i2 &&& (7 : Int32))), .val (.long ((((i2.toUInt32 >>> ((3 : Int32) &&& 31).toUInt32).toInt32) &&& (3 : Int32)).toInt64)), .second, .val (.long t), .second, .unset, .unset] [])) target → Steps p.tables e below (T0.setTop (mkF m 0 #[.val (.long j0), .second, .val (.int i2), .unset, .unset, .unset, .unset, .unset, .unset, .unset] [])) target := by
  by_cases k0 : (i2 &&& (7 : Int32)) = (0 : Int32)
  · exact ⟨_, sa_0 j0 i2 X0 hx hZ hw hby hml hown e0 k0⟩
  by_cases k1 : (i2 &&& (7 : Int32)) = (1 : Int32)
  · exact ⟨_, sa_1 j0 i2 X0 hx hZ hw hby hml hown e0 k0 k1⟩
  by_cases k2 : (i2 &&& (7 : Int32)) = (2 : Int32)
  · exact ⟨_, sa_2 j0 i2 X0 hx hZ hw hby hml hown e0 k0 k1 k2⟩
  by_cases k3 : (i2 &&& (7 : Int32)) = (3 : Int32)
  · exact ⟨_, sa_3 j0 i2 X0 hx hZ hw hby hml hown e0 k0 k1 k2 k3⟩
  by_cases k4 : (i2 &&& (7 : Int32)) = (4 : Int32)
  · exact ⟨_, sa_4 j0 i2 X0 hx hZ hw hby hml hown e0 k0 k1 k2 k3 k4⟩
  by_cases k5 : (i2 &&& (7 : Int32)) = (5 : Int32)
  · exact ⟨_, sa_5 j0 i2 X0 hx hZ hw hby hml hown e0 k0 k1 k2 k3 k4 k5⟩
  exact ⟨_, sa_6 j0 i2 X0 hx hZ hw hby hml hown e0 k0 k1 k2 k3 k4 k5⟩

set_option maxRecDepth 65536 in
set_option maxHeartbeats 40000000 in
theorem sb_0 {p : Program} {l : Launch} {e : Env} {R : Room} {s : State} {m : MethodId} {args : Array Value} {below : List Frame} {meth : Method} {c : Code} {T0 : State} {locs : List Loc} {cells slots : Nat} {Z : State} {a0 : Array Value} {h0 : Heap} (j0 : Int64) (i2 : Int32) (i3 : Int32) (j4 : Int64) (j6 : Int64) (o8 : Addr) (w_NONE : Addr) (w_BADGES : Addr) (w_STAR : Addr) (w_TREE : Addr) (w_SANTA : Addr)
    (X0 : Stand p l e R s m args below meth c T0 locs cells slots) (hx : p.tables.exec = Jvm.exec) (hZ : Z.Warmed39 s.vm) (hw : ∀ d ∈ tables_1, d.before a0 Z = true) (hby : c.code = code) (hml : c.maxLocals = 10) (hown : s.vm.findClass "com/example/advent_ledger/adventledger/BadgeEarnedByPinLaw" = some m.cls) (e0 : T0.heap = h0) (S_NONE : Sta Z h0 "com/example/advent_ledger/adventledger/Promotion$Badge" "NONE" "Lcom/example/advent_ledger/adventledger/Promotion$Badge;" (.ref w_NONE)) (S_BADGES : Sta Z h0 "com/example/advent_ledger/adventledger/Promotion$Badge" "BADGES" "[Lcom/example/advent_ledger/adventledger/Promotion$Badge;" (.ref w_BADGES)) (S_STAR : Sta Z h0 "com/example/advent_ledger/adventledger/Promotion$Badge" "STAR" "Lcom/example/advent_ledger/adventledger/Promotion$Badge;" (.ref w_STAR)) (S_TREE : Sta Z h0 "com/example/advent_ledger/adventledger/Promotion$Badge" "TREE" "Lcom/example/advent_ledger/adventledger/Promotion$Badge;" (.ref w_TREE)) (S_SANTA : Sta Z h0 "com/example/advent_ledger/adventledger/Promotion$Badge" "SANTA" "Lcom/example/advent_ledger/adventledger/Promotion$Badge;" (.ref w_SANTA)) (hq : o8 = w_SANTA) (hc138 : ¬ ((lcmpW j6 (20000 : Int64)) < (0 : Int32))) (ha192 : o8 = w_SANTA) :
    ∃ (T' : State), Stand p l e R s m args below meth c T' locs cells slots ∧ T'.heap = h0 ∧
      ∀ target, Steps p.tables e below (T'.setTop (mkF m 200 #[.val (.long j0), .second, .val (.int i2), .val (.int i3), .val (.long j4), .second, .val (.long j6), .second, .val (.ref o8), .val (.ref w_SANTA)] [(.int (1 : Int32))])) target → Steps p.tables e below (T0.setTop (mkF m 132 #[.val (.long j0), .second, .val (.int i2), .val (.int i3), .val (.long j4), .second, .val (.long j6), .second, .val (.ref o8), .unset] [])) target := by
  obtain ⟨T3, X3, e3, st3⟩ := getS2 X0 hx hZ hown (host := "") (Or.inl (hw _ (List.mem_of_getElem? (i := 20) rfl))) Via.refl e0 S_SANTA (g := (mkF m 141 #[.val (.long j0), .second, .val (.int i2), .val (.int i3), .val (.long j4), .second, .val (.long j6), .second, .val (.ref o8), .unset] [])) rfl (hb hby at_141)
  refine ⟨T3, X3, e3, fun target kt => ?_⟩
  show Steps p.tables e below (T0.setTop (mkF m 132 #[.val (.long j0), .second, .val (.int i2), .val (.int i3), .val (.long j4), .second, .val (.long j6), .second, .val (.ref o8), .unset] [])) _
  refine XS.lload X0.here hx rfl (hb hby at_132) rfl ?_
  show Steps p.tables e below (T0.setTop (mkF m 134 #[.val (.long j0), .second, .val (.int i2), .val (.int i3), .val (.long j4), .second, .val (.long j6), .second, .val (.ref o8), .unset] [(.long j6)])) _
  refine X0.ldc2Long hx hown (mvT hZ (hw _ (List.mem_of_getElem? (i := 15) rfl))) (g := (mkF m 134 #[.val (.long j0), .second, .val (.int i2), .val (.int i3), .val (.long j4), .second, .val (.long j6), .second, .val (.ref o8), .unset] [(.long j6)])) rfl (hb hby at_134) _ ?_
  show Steps p.tables e below (T0.setTop (mkF m 137 #[.val (.long j0), .second, .val (.int i2), .val (.int i3), .val (.long j4), .second, .val (.long j6), .second, .val (.ref o8), .unset] [(.long (20000 : Int64)), (.long j6)])) _
  refine XS.lcmp X0.here hx rfl (hb hby at_137) rfl ?_
  show Steps p.tables e below (T0.setTop (mkF m 138 #[.val (.long j0), .second, .val (.int i2), .val (.int i3), .val (.long j4), .second, .val (.long j6), .second, .val (.ref o8), .unset] [(.int (lcmpW j6 (20000 : Int64)))])) _
  refine XS.ifNo X0.here hx rfl (hb hby at_138) rfl ((if0 _ _).trans (flt hc138).1) ?_
  show Steps p.tables e below (T0.setTop (mkF m 141 #[.val (.long j0), .second, .val (.int i2), .val (.int i3), .val (.long j4), .second, .val (.long j6), .second, .val (.ref o8), .unset] [])) _
  refine st3 _ ?_
  show Steps p.tables e below (T3.setTop (mkF m 144 #[.val (.long j0), .second, .val (.int i2), .val (.int i3), .val (.long j4), .second, .val (.long j6), .second, .val (.ref o8), .unset] [(.ref w_SANTA)])) _
  refine XS.astore X3.here hx rfl (hb hby at_144) rfl rfl (l' := #[.val (.long j0), .second, .val (.int i2), .val (.int i3), .val (.long j4), .second, .val (.long j6), .second, .val (.ref o8), .val (.ref w_SANTA)]) rfl ?_
  show Steps p.tables e below (T3.setTop (mkF m 146 #[.val (.long j0), .second, .val (.int i2), .val (.int i3), .val (.long j4), .second, .val (.long j6), .second, .val (.ref o8), .val (.ref w_SANTA)] [])) _
  refine XS.goto X3.here hx rfl (pc0 := 146) (pc' := 188) rfl (hb hby at_146) (by decide) (by decide) ?_
  show Steps p.tables e below (T3.setTop (mkF m 188 #[.val (.long j0), .second, .val (.int i2), .val (.int i3), .val (.long j4), .second, .val (.long j6), .second, .val (.ref o8), .val (.ref w_SANTA)] [])) _
  refine XS.aload X3.here hx rfl (hb hby at_188) rfl rfl ?_
  show Steps p.tables e below (T3.setTop (mkF m 190 #[.val (.long j0), .second, .val (.int i2), .val (.int i3), .val (.long j4), .second, .val (.long j6), .second, .val (.ref o8), .val (.ref w_SANTA)] [(.ref o8)])) _
  refine XS.aload X3.here hx rfl (hb hby at_190) rfl rfl ?_
  show Steps p.tables e below (T3.setTop (mkF m 192 #[.val (.long j0), .second, .val (.int i2), .val (.int i3), .val (.long j4), .second, .val (.long j6), .second, .val (.ref o8), .val (.ref w_SANTA)] [(.ref w_SANTA), (.ref o8)])) _
  refine Jvm.RoadKit.acmp (g := (mkF m 192 #[.val (.long j0), .second, .val (.int i2), .val (.int i3), .val (.long j4), .second, .val (.long j6), .second, .val (.ref o8), .val (.ref w_SANTA)] [(.ref w_SANTA), (.ref o8)])) X3 hx rfl rfl rfl (pc0 := 192) (pc' := 195) (same := true) rfl (hb hby at_192) rfl (decide_eq_true (congrArg Value.ref ha192)) (by decide) (by decide) ?_
  show Steps p.tables e below (T3.setTop (mkF m 195 #[.val (.long j0), .second, .val (.int i2), .val (.int i3), .val (.long j4), .second, .val (.long j6), .second, .val (.ref o8), .val (.ref w_SANTA)] [])) _
  refine XS.iconst X3.here hx rfl (hb hby at_195) ?_
  show Steps p.tables e below (T3.setTop (mkF m 196 #[.val (.long j0), .second, .val (.int i2), .val (.int i3), .val (.long j4), .second, .val (.long j6), .second, .val (.ref o8), .val (.ref w_SANTA)] [(.int (1 : Int32))])) _
  refine XS.goto X3.here hx rfl (pc0 := 196) (pc' := 200) rfl (hb hby at_196) (by decide) (by decide) ?_
  exact kt

set_option maxRecDepth 65536 in
set_option maxHeartbeats 40000000 in
theorem sb_1 {p : Program} {l : Launch} {e : Env} {R : Room} {s : State} {m : MethodId} {args : Array Value} {below : List Frame} {meth : Method} {c : Code} {T0 : State} {locs : List Loc} {cells slots : Nat} {Z : State} {a0 : Array Value} {h0 : Heap} (j0 : Int64) (i2 : Int32) (i3 : Int32) (j4 : Int64) (j6 : Int64) (o8 : Addr) (w_NONE : Addr) (w_BADGES : Addr) (w_STAR : Addr) (w_TREE : Addr) (w_SANTA : Addr)
    (X0 : Stand p l e R s m args below meth c T0 locs cells slots) (hx : p.tables.exec = Jvm.exec) (hZ : Z.Warmed39 s.vm) (hw : ∀ d ∈ tables_1, d.before a0 Z = true) (hby : c.code = code) (hml : c.maxLocals = 10) (hown : s.vm.findClass "com/example/advent_ledger/adventledger/BadgeEarnedByPinLaw" = some m.cls) (e0 : T0.heap = h0) (S_NONE : Sta Z h0 "com/example/advent_ledger/adventledger/Promotion$Badge" "NONE" "Lcom/example/advent_ledger/adventledger/Promotion$Badge;" (.ref w_NONE)) (S_BADGES : Sta Z h0 "com/example/advent_ledger/adventledger/Promotion$Badge" "BADGES" "[Lcom/example/advent_ledger/adventledger/Promotion$Badge;" (.ref w_BADGES)) (S_STAR : Sta Z h0 "com/example/advent_ledger/adventledger/Promotion$Badge" "STAR" "Lcom/example/advent_ledger/adventledger/Promotion$Badge;" (.ref w_STAR)) (S_TREE : Sta Z h0 "com/example/advent_ledger/adventledger/Promotion$Badge" "TREE" "Lcom/example/advent_ledger/adventledger/Promotion$Badge;" (.ref w_TREE)) (S_SANTA : Sta Z h0 "com/example/advent_ledger/adventledger/Promotion$Badge" "SANTA" "Lcom/example/advent_ledger/adventledger/Promotion$Badge;" (.ref w_SANTA)) (hq : o8 = w_TREE) (hc138 : (lcmpW j6 (20000 : Int64)) < (0 : Int32)) (hc155 : ¬ ((lcmpW j6 (10000 : Int64)) < (0 : Int32))) (ha192 : o8 = w_TREE) :
    ∃ (T' : State), Stand p l e R s m args below meth c T' locs cells slots ∧ T'.heap = h0 ∧
      ∀ target, Steps p.tables e below (T'.setTop (mkF m 200 #[.val (.long j0), .second, .val (.int i2), .val (.int i3), .val (.long j4), .second, .val (.long j6), .second, .val (.ref o8), .val (.ref w_TREE)] [(.int (1 : Int32))])) target → Steps p.tables e below (T0.setTop (mkF m 132 #[.val (.long j0), .second, .val (.int i2), .val (.int i3), .val (.long j4), .second, .val (.long j6), .second, .val (.ref o8), .unset] [])) target := by
  obtain ⟨T3, X3, e3, st3⟩ := getS2 X0 hx hZ hown (host := "") (Or.inl (hw _ (List.mem_of_getElem? (i := 21) rfl))) Via.refl e0 S_TREE (g := (mkF m 158 #[.val (.long j0), .second, .val (.int i2), .val (.int i3), .val (.long j4), .second, .val (.long j6), .second, .val (.ref o8), .unset] [])) rfl (hb hby at_158)
  refine ⟨T3, X3, e3, fun target kt => ?_⟩
  show Steps p.tables e below (T0.setTop (mkF m 132 #[.val (.long j0), .second, .val (.int i2), .val (.int i3), .val (.long j4), .second, .val (.long j6), .second, .val (.ref o8), .unset] [])) _
  refine XS.lload X0.here hx rfl (hb hby at_132) rfl ?_
  show Steps p.tables e below (T0.setTop (mkF m 134 #[.val (.long j0), .second, .val (.int i2), .val (.int i3), .val (.long j4), .second, .val (.long j6), .second, .val (.ref o8), .unset] [(.long j6)])) _
  refine X0.ldc2Long hx hown (mvT hZ (hw _ (List.mem_of_getElem? (i := 15) rfl))) (g := (mkF m 134 #[.val (.long j0), .second, .val (.int i2), .val (.int i3), .val (.long j4), .second, .val (.long j6), .second, .val (.ref o8), .unset] [(.long j6)])) rfl (hb hby at_134) _ ?_
  show Steps p.tables e below (T0.setTop (mkF m 137 #[.val (.long j0), .second, .val (.int i2), .val (.int i3), .val (.long j4), .second, .val (.long j6), .second, .val (.ref o8), .unset] [(.long (20000 : Int64)), (.long j6)])) _
  refine XS.lcmp X0.here hx rfl (hb hby at_137) rfl ?_
  show Steps p.tables e below (T0.setTop (mkF m 138 #[.val (.long j0), .second, .val (.int i2), .val (.int i3), .val (.long j4), .second, .val (.long j6), .second, .val (.ref o8), .unset] [(.int (lcmpW j6 (20000 : Int64)))])) _
  refine XS.ifYes X0.here hx rfl (pc0 := 138) (pc' := 149) rfl (hb hby at_138) rfl ((if0 _ _).trans (tlt hc138).1) (by decide) (by decide) ?_
  show Steps p.tables e below (T0.setTop (mkF m 149 #[.val (.long j0), .second, .val (.int i2), .val (.int i3), .val (.long j4), .second, .val (.long j6), .second, .val (.ref o8), .unset] [])) _
  refine XS.lload X0.here hx rfl (hb hby at_149) rfl ?_
  show Steps p.tables e below (T0.setTop (mkF m 151 #[.val (.long j0), .second, .val (.int i2), .val (.int i3), .val (.long j4), .second, .val (.long j6), .second, .val (.ref o8), .unset] [(.long j6)])) _
  refine X0.ldc2Long hx hown (mvT hZ (hw _ (List.mem_of_getElem? (i := 0) rfl))) (g := (mkF m 151 #[.val (.long j0), .second, .val (.int i2), .val (.int i3), .val (.long j4), .second, .val (.long j6), .second, .val (.ref o8), .unset] [(.long j6)])) rfl (hb hby at_151) _ ?_
  show Steps p.tables e below (T0.setTop (mkF m 154 #[.val (.long j0), .second, .val (.int i2), .val (.int i3), .val (.long j4), .second, .val (.long j6), .second, .val (.ref o8), .unset] [(.long (10000 : Int64)), (.long j6)])) _
  refine XS.lcmp X0.here hx rfl (hb hby at_154) rfl ?_
  show Steps p.tables e below (T0.setTop (mkF m 155 #[.val (.long j0), .second, .val (.int i2), .val (.int i3), .val (.long j4), .second, .val (.long j6), .second, .val (.ref o8), .unset] [(.int (lcmpW j6 (10000 : Int64)))])) _
  refine XS.ifNo X0.here hx rfl (hb hby at_155) rfl ((if0 _ _).trans (flt hc155).1) ?_
  show Steps p.tables e below (T0.setTop (mkF m 158 #[.val (.long j0), .second, .val (.int i2), .val (.int i3), .val (.long j4), .second, .val (.long j6), .second, .val (.ref o8), .unset] [])) _
  refine st3 _ ?_
  show Steps p.tables e below (T3.setTop (mkF m 161 #[.val (.long j0), .second, .val (.int i2), .val (.int i3), .val (.long j4), .second, .val (.long j6), .second, .val (.ref o8), .unset] [(.ref w_TREE)])) _
  refine XS.astore X3.here hx rfl (hb hby at_161) rfl rfl (l' := #[.val (.long j0), .second, .val (.int i2), .val (.int i3), .val (.long j4), .second, .val (.long j6), .second, .val (.ref o8), .val (.ref w_TREE)]) rfl ?_
  show Steps p.tables e below (T3.setTop (mkF m 163 #[.val (.long j0), .second, .val (.int i2), .val (.int i3), .val (.long j4), .second, .val (.long j6), .second, .val (.ref o8), .val (.ref w_TREE)] [])) _
  refine XS.goto X3.here hx rfl (pc0 := 163) (pc' := 188) rfl (hb hby at_163) (by decide) (by decide) ?_
  show Steps p.tables e below (T3.setTop (mkF m 188 #[.val (.long j0), .second, .val (.int i2), .val (.int i3), .val (.long j4), .second, .val (.long j6), .second, .val (.ref o8), .val (.ref w_TREE)] [])) _
  refine XS.aload X3.here hx rfl (hb hby at_188) rfl rfl ?_
  show Steps p.tables e below (T3.setTop (mkF m 190 #[.val (.long j0), .second, .val (.int i2), .val (.int i3), .val (.long j4), .second, .val (.long j6), .second, .val (.ref o8), .val (.ref w_TREE)] [(.ref o8)])) _
  refine XS.aload X3.here hx rfl (hb hby at_190) rfl rfl ?_
  show Steps p.tables e below (T3.setTop (mkF m 192 #[.val (.long j0), .second, .val (.int i2), .val (.int i3), .val (.long j4), .second, .val (.long j6), .second, .val (.ref o8), .val (.ref w_TREE)] [(.ref w_TREE), (.ref o8)])) _
  refine Jvm.RoadKit.acmp (g := (mkF m 192 #[.val (.long j0), .second, .val (.int i2), .val (.int i3), .val (.long j4), .second, .val (.long j6), .second, .val (.ref o8), .val (.ref w_TREE)] [(.ref w_TREE), (.ref o8)])) X3 hx rfl rfl rfl (pc0 := 192) (pc' := 195) (same := true) rfl (hb hby at_192) rfl (decide_eq_true (congrArg Value.ref ha192)) (by decide) (by decide) ?_
  show Steps p.tables e below (T3.setTop (mkF m 195 #[.val (.long j0), .second, .val (.int i2), .val (.int i3), .val (.long j4), .second, .val (.long j6), .second, .val (.ref o8), .val (.ref w_TREE)] [])) _
  refine XS.iconst X3.here hx rfl (hb hby at_195) ?_
  show Steps p.tables e below (T3.setTop (mkF m 196 #[.val (.long j0), .second, .val (.int i2), .val (.int i3), .val (.long j4), .second, .val (.long j6), .second, .val (.ref o8), .val (.ref w_TREE)] [(.int (1 : Int32))])) _
  refine XS.goto X3.here hx rfl (pc0 := 196) (pc' := 200) rfl (hb hby at_196) (by decide) (by decide) ?_
  exact kt

set_option maxRecDepth 65536 in
set_option maxHeartbeats 40000000 in
theorem sb_2 {p : Program} {l : Launch} {e : Env} {R : Room} {s : State} {m : MethodId} {args : Array Value} {below : List Frame} {meth : Method} {c : Code} {T0 : State} {locs : List Loc} {cells slots : Nat} {Z : State} {a0 : Array Value} {h0 : Heap} (j0 : Int64) (i2 : Int32) (i3 : Int32) (j4 : Int64) (j6 : Int64) (o8 : Addr) (w_NONE : Addr) (w_BADGES : Addr) (w_STAR : Addr) (w_TREE : Addr) (w_SANTA : Addr)
    (X0 : Stand p l e R s m args below meth c T0 locs cells slots) (hx : p.tables.exec = Jvm.exec) (hZ : Z.Warmed39 s.vm) (hw : ∀ d ∈ tables_1, d.before a0 Z = true) (hby : c.code = code) (hml : c.maxLocals = 10) (hown : s.vm.findClass "com/example/advent_ledger/adventledger/BadgeEarnedByPinLaw" = some m.cls) (e0 : T0.heap = h0) (S_NONE : Sta Z h0 "com/example/advent_ledger/adventledger/Promotion$Badge" "NONE" "Lcom/example/advent_ledger/adventledger/Promotion$Badge;" (.ref w_NONE)) (S_BADGES : Sta Z h0 "com/example/advent_ledger/adventledger/Promotion$Badge" "BADGES" "[Lcom/example/advent_ledger/adventledger/Promotion$Badge;" (.ref w_BADGES)) (S_STAR : Sta Z h0 "com/example/advent_ledger/adventledger/Promotion$Badge" "STAR" "Lcom/example/advent_ledger/adventledger/Promotion$Badge;" (.ref w_STAR)) (S_TREE : Sta Z h0 "com/example/advent_ledger/adventledger/Promotion$Badge" "TREE" "Lcom/example/advent_ledger/adventledger/Promotion$Badge;" (.ref w_TREE)) (S_SANTA : Sta Z h0 "com/example/advent_ledger/adventledger/Promotion$Badge" "SANTA" "Lcom/example/advent_ledger/adventledger/Promotion$Badge;" (.ref w_SANTA)) (hq : o8 = w_STAR) (hc138 : (lcmpW j6 (20000 : Int64)) < (0 : Int32)) (hc155 : (lcmpW j6 (10000 : Int64)) < (0 : Int32)) (hc172 : ¬ ((lcmpW j6 (5000 : Int64)) < (0 : Int32))) (ha192 : o8 = w_STAR) :
    ∃ (T' : State), Stand p l e R s m args below meth c T' locs cells slots ∧ T'.heap = h0 ∧
      ∀ target, Steps p.tables e below (T'.setTop (mkF m 200 #[.val (.long j0), .second, .val (.int i2), .val (.int i3), .val (.long j4), .second, .val (.long j6), .second, .val (.ref o8), .val (.ref w_STAR)] [(.int (1 : Int32))])) target → Steps p.tables e below (T0.setTop (mkF m 132 #[.val (.long j0), .second, .val (.int i2), .val (.int i3), .val (.long j4), .second, .val (.long j6), .second, .val (.ref o8), .unset] [])) target := by
  obtain ⟨T3, X3, e3, st3⟩ := getS2 X0 hx hZ hown (host := "") (Or.inl (hw _ (List.mem_of_getElem? (i := 17) rfl))) Via.refl e0 S_STAR (g := (mkF m 175 #[.val (.long j0), .second, .val (.int i2), .val (.int i3), .val (.long j4), .second, .val (.long j6), .second, .val (.ref o8), .unset] [])) rfl (hb hby at_175)
  refine ⟨T3, X3, e3, fun target kt => ?_⟩
  show Steps p.tables e below (T0.setTop (mkF m 132 #[.val (.long j0), .second, .val (.int i2), .val (.int i3), .val (.long j4), .second, .val (.long j6), .second, .val (.ref o8), .unset] [])) _
  refine XS.lload X0.here hx rfl (hb hby at_132) rfl ?_
  show Steps p.tables e below (T0.setTop (mkF m 134 #[.val (.long j0), .second, .val (.int i2), .val (.int i3), .val (.long j4), .second, .val (.long j6), .second, .val (.ref o8), .unset] [(.long j6)])) _
  refine X0.ldc2Long hx hown (mvT hZ (hw _ (List.mem_of_getElem? (i := 15) rfl))) (g := (mkF m 134 #[.val (.long j0), .second, .val (.int i2), .val (.int i3), .val (.long j4), .second, .val (.long j6), .second, .val (.ref o8), .unset] [(.long j6)])) rfl (hb hby at_134) _ ?_
  show Steps p.tables e below (T0.setTop (mkF m 137 #[.val (.long j0), .second, .val (.int i2), .val (.int i3), .val (.long j4), .second, .val (.long j6), .second, .val (.ref o8), .unset] [(.long (20000 : Int64)), (.long j6)])) _
  refine XS.lcmp X0.here hx rfl (hb hby at_137) rfl ?_
  show Steps p.tables e below (T0.setTop (mkF m 138 #[.val (.long j0), .second, .val (.int i2), .val (.int i3), .val (.long j4), .second, .val (.long j6), .second, .val (.ref o8), .unset] [(.int (lcmpW j6 (20000 : Int64)))])) _
  refine XS.ifYes X0.here hx rfl (pc0 := 138) (pc' := 149) rfl (hb hby at_138) rfl ((if0 _ _).trans (tlt hc138).1) (by decide) (by decide) ?_
  show Steps p.tables e below (T0.setTop (mkF m 149 #[.val (.long j0), .second, .val (.int i2), .val (.int i3), .val (.long j4), .second, .val (.long j6), .second, .val (.ref o8), .unset] [])) _
  refine XS.lload X0.here hx rfl (hb hby at_149) rfl ?_
  show Steps p.tables e below (T0.setTop (mkF m 151 #[.val (.long j0), .second, .val (.int i2), .val (.int i3), .val (.long j4), .second, .val (.long j6), .second, .val (.ref o8), .unset] [(.long j6)])) _
  refine X0.ldc2Long hx hown (mvT hZ (hw _ (List.mem_of_getElem? (i := 0) rfl))) (g := (mkF m 151 #[.val (.long j0), .second, .val (.int i2), .val (.int i3), .val (.long j4), .second, .val (.long j6), .second, .val (.ref o8), .unset] [(.long j6)])) rfl (hb hby at_151) _ ?_
  show Steps p.tables e below (T0.setTop (mkF m 154 #[.val (.long j0), .second, .val (.int i2), .val (.int i3), .val (.long j4), .second, .val (.long j6), .second, .val (.ref o8), .unset] [(.long (10000 : Int64)), (.long j6)])) _
  refine XS.lcmp X0.here hx rfl (hb hby at_154) rfl ?_
  show Steps p.tables e below (T0.setTop (mkF m 155 #[.val (.long j0), .second, .val (.int i2), .val (.int i3), .val (.long j4), .second, .val (.long j6), .second, .val (.ref o8), .unset] [(.int (lcmpW j6 (10000 : Int64)))])) _
  refine XS.ifYes X0.here hx rfl (pc0 := 155) (pc' := 166) rfl (hb hby at_155) rfl ((if0 _ _).trans (tlt hc155).1) (by decide) (by decide) ?_
  show Steps p.tables e below (T0.setTop (mkF m 166 #[.val (.long j0), .second, .val (.int i2), .val (.int i3), .val (.long j4), .second, .val (.long j6), .second, .val (.ref o8), .unset] [])) _
  refine XS.lload X0.here hx rfl (hb hby at_166) rfl ?_
  show Steps p.tables e below (T0.setTop (mkF m 168 #[.val (.long j0), .second, .val (.int i2), .val (.int i3), .val (.long j4), .second, .val (.long j6), .second, .val (.ref o8), .unset] [(.long j6)])) _
  refine X0.ldc2Long hx hown (mvT hZ (hw _ (List.mem_of_getElem? (i := 16) rfl))) (g := (mkF m 168 #[.val (.long j0), .second, .val (.int i2), .val (.int i3), .val (.long j4), .second, .val (.long j6), .second, .val (.ref o8), .unset] [(.long j6)])) rfl (hb hby at_168) _ ?_
  show Steps p.tables e below (T0.setTop (mkF m 171 #[.val (.long j0), .second, .val (.int i2), .val (.int i3), .val (.long j4), .second, .val (.long j6), .second, .val (.ref o8), .unset] [(.long (5000 : Int64)), (.long j6)])) _
  refine XS.lcmp X0.here hx rfl (hb hby at_171) rfl ?_
  show Steps p.tables e below (T0.setTop (mkF m 172 #[.val (.long j0), .second, .val (.int i2), .val (.int i3), .val (.long j4), .second, .val (.long j6), .second, .val (.ref o8), .unset] [(.int (lcmpW j6 (5000 : Int64)))])) _
  refine XS.ifNo X0.here hx rfl (hb hby at_172) rfl ((if0 _ _).trans (flt hc172).1) ?_
  show Steps p.tables e below (T0.setTop (mkF m 175 #[.val (.long j0), .second, .val (.int i2), .val (.int i3), .val (.long j4), .second, .val (.long j6), .second, .val (.ref o8), .unset] [])) _
  refine st3 _ ?_
  show Steps p.tables e below (T3.setTop (mkF m 178 #[.val (.long j0), .second, .val (.int i2), .val (.int i3), .val (.long j4), .second, .val (.long j6), .second, .val (.ref o8), .unset] [(.ref w_STAR)])) _
  refine XS.astore X3.here hx rfl (hb hby at_178) rfl rfl (l' := #[.val (.long j0), .second, .val (.int i2), .val (.int i3), .val (.long j4), .second, .val (.long j6), .second, .val (.ref o8), .val (.ref w_STAR)]) rfl ?_
  show Steps p.tables e below (T3.setTop (mkF m 180 #[.val (.long j0), .second, .val (.int i2), .val (.int i3), .val (.long j4), .second, .val (.long j6), .second, .val (.ref o8), .val (.ref w_STAR)] [])) _
  refine XS.goto X3.here hx rfl (pc0 := 180) (pc' := 188) rfl (hb hby at_180) (by decide) (by decide) ?_
  show Steps p.tables e below (T3.setTop (mkF m 188 #[.val (.long j0), .second, .val (.int i2), .val (.int i3), .val (.long j4), .second, .val (.long j6), .second, .val (.ref o8), .val (.ref w_STAR)] [])) _
  refine XS.aload X3.here hx rfl (hb hby at_188) rfl rfl ?_
  show Steps p.tables e below (T3.setTop (mkF m 190 #[.val (.long j0), .second, .val (.int i2), .val (.int i3), .val (.long j4), .second, .val (.long j6), .second, .val (.ref o8), .val (.ref w_STAR)] [(.ref o8)])) _
  refine XS.aload X3.here hx rfl (hb hby at_190) rfl rfl ?_
  show Steps p.tables e below (T3.setTop (mkF m 192 #[.val (.long j0), .second, .val (.int i2), .val (.int i3), .val (.long j4), .second, .val (.long j6), .second, .val (.ref o8), .val (.ref w_STAR)] [(.ref w_STAR), (.ref o8)])) _
  refine Jvm.RoadKit.acmp (g := (mkF m 192 #[.val (.long j0), .second, .val (.int i2), .val (.int i3), .val (.long j4), .second, .val (.long j6), .second, .val (.ref o8), .val (.ref w_STAR)] [(.ref w_STAR), (.ref o8)])) X3 hx rfl rfl rfl (pc0 := 192) (pc' := 195) (same := true) rfl (hb hby at_192) rfl (decide_eq_true (congrArg Value.ref ha192)) (by decide) (by decide) ?_
  show Steps p.tables e below (T3.setTop (mkF m 195 #[.val (.long j0), .second, .val (.int i2), .val (.int i3), .val (.long j4), .second, .val (.long j6), .second, .val (.ref o8), .val (.ref w_STAR)] [])) _
  refine XS.iconst X3.here hx rfl (hb hby at_195) ?_
  show Steps p.tables e below (T3.setTop (mkF m 196 #[.val (.long j0), .second, .val (.int i2), .val (.int i3), .val (.long j4), .second, .val (.long j6), .second, .val (.ref o8), .val (.ref w_STAR)] [(.int (1 : Int32))])) _
  refine XS.goto X3.here hx rfl (pc0 := 196) (pc' := 200) rfl (hb hby at_196) (by decide) (by decide) ?_
  exact kt

set_option maxRecDepth 65536 in
set_option maxHeartbeats 40000000 in
theorem sb_3 {p : Program} {l : Launch} {e : Env} {R : Room} {s : State} {m : MethodId} {args : Array Value} {below : List Frame} {meth : Method} {c : Code} {T0 : State} {locs : List Loc} {cells slots : Nat} {Z : State} {a0 : Array Value} {h0 : Heap} (j0 : Int64) (i2 : Int32) (i3 : Int32) (j4 : Int64) (j6 : Int64) (o8 : Addr) (w_NONE : Addr) (w_BADGES : Addr) (w_STAR : Addr) (w_TREE : Addr) (w_SANTA : Addr)
    (X0 : Stand p l e R s m args below meth c T0 locs cells slots) (hx : p.tables.exec = Jvm.exec) (hZ : Z.Warmed39 s.vm) (hw : ∀ d ∈ tables_1, d.before a0 Z = true) (hby : c.code = code) (hml : c.maxLocals = 10) (hown : s.vm.findClass "com/example/advent_ledger/adventledger/BadgeEarnedByPinLaw" = some m.cls) (e0 : T0.heap = h0) (S_NONE : Sta Z h0 "com/example/advent_ledger/adventledger/Promotion$Badge" "NONE" "Lcom/example/advent_ledger/adventledger/Promotion$Badge;" (.ref w_NONE)) (S_BADGES : Sta Z h0 "com/example/advent_ledger/adventledger/Promotion$Badge" "BADGES" "[Lcom/example/advent_ledger/adventledger/Promotion$Badge;" (.ref w_BADGES)) (S_STAR : Sta Z h0 "com/example/advent_ledger/adventledger/Promotion$Badge" "STAR" "Lcom/example/advent_ledger/adventledger/Promotion$Badge;" (.ref w_STAR)) (S_TREE : Sta Z h0 "com/example/advent_ledger/adventledger/Promotion$Badge" "TREE" "Lcom/example/advent_ledger/adventledger/Promotion$Badge;" (.ref w_TREE)) (S_SANTA : Sta Z h0 "com/example/advent_ledger/adventledger/Promotion$Badge" "SANTA" "Lcom/example/advent_ledger/adventledger/Promotion$Badge;" (.ref w_SANTA)) (hq : o8 = w_NONE) (hc138 : (lcmpW j6 (20000 : Int64)) < (0 : Int32)) (hc155 : (lcmpW j6 (10000 : Int64)) < (0 : Int32)) (hc172 : (lcmpW j6 (5000 : Int64)) < (0 : Int32)) (ha192 : o8 = w_NONE) :
    ∃ (T' : State), Stand p l e R s m args below meth c T' locs cells slots ∧ T'.heap = h0 ∧
      ∀ target, Steps p.tables e below (T'.setTop (mkF m 200 #[.val (.long j0), .second, .val (.int i2), .val (.int i3), .val (.long j4), .second, .val (.long j6), .second, .val (.ref o8), .val (.ref w_NONE)] [(.int (1 : Int32))])) target → Steps p.tables e below (T0.setTop (mkF m 132 #[.val (.long j0), .second, .val (.int i2), .val (.int i3), .val (.long j4), .second, .val (.long j6), .second, .val (.ref o8), .unset] [])) target := by
  obtain ⟨T3, X3, e3, st3⟩ := getS2 X0 hx hZ hown (host := "") (Or.inl (hw _ (List.mem_of_getElem? (i := 19) rfl))) Via.refl e0 S_NONE (g := (mkF m 183 #[.val (.long j0), .second, .val (.int i2), .val (.int i3), .val (.long j4), .second, .val (.long j6), .second, .val (.ref o8), .unset] [])) rfl (hb hby at_183)
  refine ⟨T3, X3, e3, fun target kt => ?_⟩
  show Steps p.tables e below (T0.setTop (mkF m 132 #[.val (.long j0), .second, .val (.int i2), .val (.int i3), .val (.long j4), .second, .val (.long j6), .second, .val (.ref o8), .unset] [])) _
  refine XS.lload X0.here hx rfl (hb hby at_132) rfl ?_
  show Steps p.tables e below (T0.setTop (mkF m 134 #[.val (.long j0), .second, .val (.int i2), .val (.int i3), .val (.long j4), .second, .val (.long j6), .second, .val (.ref o8), .unset] [(.long j6)])) _
  refine X0.ldc2Long hx hown (mvT hZ (hw _ (List.mem_of_getElem? (i := 15) rfl))) (g := (mkF m 134 #[.val (.long j0), .second, .val (.int i2), .val (.int i3), .val (.long j4), .second, .val (.long j6), .second, .val (.ref o8), .unset] [(.long j6)])) rfl (hb hby at_134) _ ?_
  show Steps p.tables e below (T0.setTop (mkF m 137 #[.val (.long j0), .second, .val (.int i2), .val (.int i3), .val (.long j4), .second, .val (.long j6), .second, .val (.ref o8), .unset] [(.long (20000 : Int64)), (.long j6)])) _
  refine XS.lcmp X0.here hx rfl (hb hby at_137) rfl ?_
  show Steps p.tables e below (T0.setTop (mkF m 138 #[.val (.long j0), .second, .val (.int i2), .val (.int i3), .val (.long j4), .second, .val (.long j6), .second, .val (.ref o8), .unset] [(.int (lcmpW j6 (20000 : Int64)))])) _
  refine XS.ifYes X0.here hx rfl (pc0 := 138) (pc' := 149) rfl (hb hby at_138) rfl ((if0 _ _).trans (tlt hc138).1) (by decide) (by decide) ?_
  show Steps p.tables e below (T0.setTop (mkF m 149 #[.val (.long j0), .second, .val (.int i2), .val (.int i3), .val (.long j4), .second, .val (.long j6), .second, .val (.ref o8), .unset] [])) _
  refine XS.lload X0.here hx rfl (hb hby at_149) rfl ?_
  show Steps p.tables e below (T0.setTop (mkF m 151 #[.val (.long j0), .second, .val (.int i2), .val (.int i3), .val (.long j4), .second, .val (.long j6), .second, .val (.ref o8), .unset] [(.long j6)])) _
  refine X0.ldc2Long hx hown (mvT hZ (hw _ (List.mem_of_getElem? (i := 0) rfl))) (g := (mkF m 151 #[.val (.long j0), .second, .val (.int i2), .val (.int i3), .val (.long j4), .second, .val (.long j6), .second, .val (.ref o8), .unset] [(.long j6)])) rfl (hb hby at_151) _ ?_
  show Steps p.tables e below (T0.setTop (mkF m 154 #[.val (.long j0), .second, .val (.int i2), .val (.int i3), .val (.long j4), .second, .val (.long j6), .second, .val (.ref o8), .unset] [(.long (10000 : Int64)), (.long j6)])) _
  refine XS.lcmp X0.here hx rfl (hb hby at_154) rfl ?_
  show Steps p.tables e below (T0.setTop (mkF m 155 #[.val (.long j0), .second, .val (.int i2), .val (.int i3), .val (.long j4), .second, .val (.long j6), .second, .val (.ref o8), .unset] [(.int (lcmpW j6 (10000 : Int64)))])) _
  refine XS.ifYes X0.here hx rfl (pc0 := 155) (pc' := 166) rfl (hb hby at_155) rfl ((if0 _ _).trans (tlt hc155).1) (by decide) (by decide) ?_
  show Steps p.tables e below (T0.setTop (mkF m 166 #[.val (.long j0), .second, .val (.int i2), .val (.int i3), .val (.long j4), .second, .val (.long j6), .second, .val (.ref o8), .unset] [])) _
  refine XS.lload X0.here hx rfl (hb hby at_166) rfl ?_
  show Steps p.tables e below (T0.setTop (mkF m 168 #[.val (.long j0), .second, .val (.int i2), .val (.int i3), .val (.long j4), .second, .val (.long j6), .second, .val (.ref o8), .unset] [(.long j6)])) _
  refine X0.ldc2Long hx hown (mvT hZ (hw _ (List.mem_of_getElem? (i := 16) rfl))) (g := (mkF m 168 #[.val (.long j0), .second, .val (.int i2), .val (.int i3), .val (.long j4), .second, .val (.long j6), .second, .val (.ref o8), .unset] [(.long j6)])) rfl (hb hby at_168) _ ?_
  show Steps p.tables e below (T0.setTop (mkF m 171 #[.val (.long j0), .second, .val (.int i2), .val (.int i3), .val (.long j4), .second, .val (.long j6), .second, .val (.ref o8), .unset] [(.long (5000 : Int64)), (.long j6)])) _
  refine XS.lcmp X0.here hx rfl (hb hby at_171) rfl ?_
  show Steps p.tables e below (T0.setTop (mkF m 172 #[.val (.long j0), .second, .val (.int i2), .val (.int i3), .val (.long j4), .second, .val (.long j6), .second, .val (.ref o8), .unset] [(.int (lcmpW j6 (5000 : Int64)))])) _
  refine XS.ifYes X0.here hx rfl (pc0 := 172) (pc' := 183) rfl (hb hby at_172) rfl ((if0 _ _).trans (tlt hc172).1) (by decide) (by decide) ?_
  show Steps p.tables e below (T0.setTop (mkF m 183 #[.val (.long j0), .second, .val (.int i2), .val (.int i3), .val (.long j4), .second, .val (.long j6), .second, .val (.ref o8), .unset] [])) _
  refine st3 _ ?_
  show Steps p.tables e below (T3.setTop (mkF m 186 #[.val (.long j0), .second, .val (.int i2), .val (.int i3), .val (.long j4), .second, .val (.long j6), .second, .val (.ref o8), .unset] [(.ref w_NONE)])) _
  refine XS.astore X3.here hx rfl (hb hby at_186) rfl rfl (l' := #[.val (.long j0), .second, .val (.int i2), .val (.int i3), .val (.long j4), .second, .val (.long j6), .second, .val (.ref o8), .val (.ref w_NONE)]) rfl ?_
  show Steps p.tables e below (T3.setTop (mkF m 188 #[.val (.long j0), .second, .val (.int i2), .val (.int i3), .val (.long j4), .second, .val (.long j6), .second, .val (.ref o8), .val (.ref w_NONE)] [])) _
  refine XS.aload X3.here hx rfl (hb hby at_188) rfl rfl ?_
  show Steps p.tables e below (T3.setTop (mkF m 190 #[.val (.long j0), .second, .val (.int i2), .val (.int i3), .val (.long j4), .second, .val (.long j6), .second, .val (.ref o8), .val (.ref w_NONE)] [(.ref o8)])) _
  refine XS.aload X3.here hx rfl (hb hby at_190) rfl rfl ?_
  show Steps p.tables e below (T3.setTop (mkF m 192 #[.val (.long j0), .second, .val (.int i2), .val (.int i3), .val (.long j4), .second, .val (.long j6), .second, .val (.ref o8), .val (.ref w_NONE)] [(.ref w_NONE), (.ref o8)])) _
  refine Jvm.RoadKit.acmp (g := (mkF m 192 #[.val (.long j0), .second, .val (.int i2), .val (.int i3), .val (.long j4), .second, .val (.long j6), .second, .val (.ref o8), .val (.ref w_NONE)] [(.ref w_NONE), (.ref o8)])) X3 hx rfl rfl rfl (pc0 := 192) (pc' := 195) (same := true) rfl (hb hby at_192) rfl (decide_eq_true (congrArg Value.ref ha192)) (by decide) (by decide) ?_
  show Steps p.tables e below (T3.setTop (mkF m 195 #[.val (.long j0), .second, .val (.int i2), .val (.int i3), .val (.long j4), .second, .val (.long j6), .second, .val (.ref o8), .val (.ref w_NONE)] [])) _
  refine XS.iconst X3.here hx rfl (hb hby at_195) ?_
  show Steps p.tables e below (T3.setTop (mkF m 196 #[.val (.long j0), .second, .val (.int i2), .val (.int i3), .val (.long j4), .second, .val (.long j6), .second, .val (.ref o8), .val (.ref w_NONE)] [(.int (1 : Int32))])) _
  refine XS.goto X3.here hx rfl (pc0 := 196) (pc' := 200) rfl (hb hby at_196) (by decide) (by decide) ?_
  exact kt

theorem sb {p : Program} {l : Launch} {e : Env} {R : Room} {s : State} {m : MethodId} {args : Array Value} {below : List Frame} {meth : Method} {c : Code} {T0 : State} {locs : List Loc} {cells slots : Nat} {Z : State} {a0 : Array Value} {h0 : Heap} (j0 : Int64) (i2 : Int32) (i3 : Int32) (j4 : Int64) (j6 : Int64) (w_NONE : Addr) (w_BADGES : Addr) (w_STAR : Addr) (w_TREE : Addr) (w_SANTA : Addr) (X0 : Stand p l e R s m args below meth c T0 locs cells slots) (hx : p.tables.exec = Jvm.exec) (hZ : Z.Warmed39 s.vm) (hw : ∀ d ∈ tables_1, d.before a0 Z = true) (hby : c.code = code) (hml : c.maxLocals = 10) (hown : s.vm.findClass "com/example/advent_ledger/adventledger/BadgeEarnedByPinLaw" = some m.cls) (e0 : T0.heap = h0) (S_NONE : Sta Z h0 "com/example/advent_ledger/adventledger/Promotion$Badge" "NONE" "Lcom/example/advent_ledger/adventledger/Promotion$Badge;" (.ref w_NONE)) (S_BADGES : Sta Z h0 "com/example/advent_ledger/adventledger/Promotion$Badge" "BADGES" "[Lcom/example/advent_ledger/adventledger/Promotion$Badge;" (.ref w_BADGES)) (S_STAR : Sta Z h0 "com/example/advent_ledger/adventledger/Promotion$Badge" "STAR" "Lcom/example/advent_ledger/adventledger/Promotion$Badge;" (.ref w_STAR)) (S_TREE : Sta Z h0 "com/example/advent_ledger/adventledger/Promotion$Badge" "TREE" "Lcom/example/advent_ledger/adventledger/Promotion$Badge;" (.ref w_TREE)) (S_SANTA : Sta Z h0 "com/example/advent_ledger/adventledger/Promotion$Badge" "SANTA" "Lcom/example/advent_ledger/adventledger/Promotion$Badge;" (.ref w_SANTA)) :
    ∃ (r : Addr) (T' : State), Stand p l e R s m args below meth c T' locs cells slots ∧ T'.heap = h0 ∧
      ∀ target, Steps p.tables e below (T'.setTop (mkF m 200 #[.val (.long j0), .second, .val (.int i2), .val (.int i3), .val (.long j4), .second, .val (.long j6), .second, .val (.ref (sel j6 (20000 : Int64) w_SANTA (sel j6 (10000 : Int64) w_TREE (sel j6 (5000 : Int64) w_STAR (sel j6 (0 : Int64) w_NONE w_NONE))))), .val (.ref r)] [(.int (1 : Int32))])) target → Steps p.tables e below (T0.setTop (mkF m 132 #[.val (.long j0), .second, .val (.int i2), .val (.int i3), .val (.long j4), .second, .val (.long j6), .second, .val (.ref (sel j6 (20000 : Int64) w_SANTA (sel j6 (10000 : Int64) w_TREE (sel j6 (5000 : Int64) w_STAR (sel j6 (0 : Int64) w_NONE w_NONE))))), .unset] [])) target := by
  have e0' : (0 : Int64).toInt = 0 := rfl
  have e1' : (5000 : Int64).toInt = 5000 := rfl
  have e2' : (10000 : Int64).toInt = 10000 := rfl
  have e3' : (20000 : Int64).toInt = 20000 := rfl
  by_cases k3 : j6 < (20000 : Int64)
  · by_cases k2 : j6 < (10000 : Int64)
    · by_cases k1 : j6 < (5000 : Int64)
      · have hb : (sel j6 (20000 : Int64) w_SANTA (sel j6 (10000 : Int64) w_TREE (sel j6 (5000 : Int64) w_STAR (sel j6 (0 : Int64) w_NONE w_NONE)))) = w_NONE := by
          by_cases k0 : j6 < (0 : Int64)
          · simp [sel, own_lc k0, own_lc k1, own_lc k2, own_lc k3]
          · simp [sel, own_lc' k0, own_lc k1, own_lc k2, own_lc k3]
        exact ⟨_, sb_3 j0 i2 i3 j4 j6 ((sel j6 (20000 : Int64) w_SANTA (sel j6 (10000 : Int64) w_TREE (sel j6 (5000 : Int64) w_STAR (sel j6 (0 : Int64) w_NONE w_NONE))))) w_NONE w_BADGES w_STAR w_TREE w_SANTA X0 hx hZ hw hby hml hown e0 S_NONE S_BADGES S_STAR S_TREE S_SANTA hb (own_lc k3) (own_lc k2) (own_lc k1) hb⟩
      · have hb : (sel j6 (20000 : Int64) w_SANTA (sel j6 (10000 : Int64) w_TREE (sel j6 (5000 : Int64) w_STAR (sel j6 (0 : Int64) w_NONE w_NONE)))) = w_STAR := by simp [sel, own_lc' k1, own_lc k2, own_lc k3]
        exact ⟨_, sb_2 j0 i2 i3 j4 j6 ((sel j6 (20000 : Int64) w_SANTA (sel j6 (10000 : Int64) w_TREE (sel j6 (5000 : Int64) w_STAR (sel j6 (0 : Int64) w_NONE w_NONE))))) w_NONE w_BADGES w_STAR w_TREE w_SANTA X0 hx hZ hw hby hml hown e0 S_NONE S_BADGES S_STAR S_TREE S_SANTA hb (own_lc k3) (own_lc k2) (own_lc' k1) hb⟩
    · have hb : (sel j6 (20000 : Int64) w_SANTA (sel j6 (10000 : Int64) w_TREE (sel j6 (5000 : Int64) w_STAR (sel j6 (0 : Int64) w_NONE w_NONE)))) = w_TREE := by simp [sel, own_lc' k2, own_lc k3]
      exact ⟨_, sb_1 j0 i2 i3 j4 j6 ((sel j6 (20000 : Int64) w_SANTA (sel j6 (10000 : Int64) w_TREE (sel j6 (5000 : Int64) w_STAR (sel j6 (0 : Int64) w_NONE w_NONE))))) w_NONE w_BADGES w_STAR w_TREE w_SANTA X0 hx hZ hw hby hml hown e0 S_NONE S_BADGES S_STAR S_TREE S_SANTA hb (own_lc k3) (own_lc' k2) hb⟩
  · have hb : (sel j6 (20000 : Int64) w_SANTA (sel j6 (10000 : Int64) w_TREE (sel j6 (5000 : Int64) w_STAR (sel j6 (0 : Int64) w_NONE w_NONE)))) = w_SANTA := by simp [sel, own_lc' k3]
    exact ⟨_, sb_0 j0 i2 i3 j4 j6 ((sel j6 (20000 : Int64) w_SANTA (sel j6 (10000 : Int64) w_TREE (sel j6 (5000 : Int64) w_STAR (sel j6 (0 : Int64) w_NONE w_NONE))))) w_NONE w_BADGES w_STAR w_TREE w_SANTA X0 hx hZ hw hby hml hown e0 S_NONE S_BADGES S_STAR S_TREE S_SANTA hb (own_lc' k3) hb⟩

theorem pn_0 : plainName "com/example/advent_ledger/adventledger/BadgeEarnedByPinLaw" = true := by first | (simp [plainName, overriddenIn]; done) | decide +kernel
theorem pd_0_0 : parseMethodDescriptor "(J)Lcom/example/advent_ledger/adventledger/Promotion$Badge;" = some ⟨[.long], some (.object "com/example/advent_ledger/adventledger/Promotion$Badge")⟩ := by decide +kernel
theorem ef_0 (m : MethodId) (x0 : Int64) (x1 : Int32) : entryFrame m #[(.long x0), (.int x1)] maxLocals = mkF m 0 #[.val (.long x0), .second, .val (.int x1), .unset, .unset, .unset, .unset, .unset, .unset, .unset] [] := by first | (simp [entryFrame, mkF, argsToLocals, Value.category, maxLocals]; done) | rfl
set_option maxRecDepth 65536 in
set_option maxHeartbeats 40000000 in
theorem rm0 (l : Launch) (Z : State) (a0 : Array Value) (hw : ∀ d ∈ tables_1, d.before a0 Z = true) (ws : List Jvm.Cond) (q1 : Int64) (p2 : Int32) (w_NONE : Addr) (w_BADGES : Addr) (w_STAR : Addr) (w_TREE : Addr) (w_SANTA : Addr) (cl_w_BADGES : Cell) (z_w_BADGES : Int32) (h0 : Heap) (n0 : Nat) (Z0 : n0 ≤ h0.size) (S_NONE : Sta Z h0 "com/example/advent_ledger/adventledger/Promotion$Badge" "NONE" "Lcom/example/advent_ledger/adventledger/Promotion$Badge;" (.ref w_NONE)) (S_BADGES : Sta Z h0 "com/example/advent_ledger/adventledger/Promotion$Badge" "BADGES" "[Lcom/example/advent_ledger/adventledger/Promotion$Badge;" (.ref w_BADGES)) (S_STAR : Sta Z h0 "com/example/advent_ledger/adventledger/Promotion$Badge" "STAR" "Lcom/example/advent_ledger/adventledger/Promotion$Badge;" (.ref w_STAR)) (S_TREE : Sta Z h0 "com/example/advent_ledger/adventledger/Promotion$Badge" "TREE" "Lcom/example/advent_ledger/adventledger/Promotion$Badge;" (.ref w_TREE)) (S_SANTA : Sta Z h0 "com/example/advent_ledger/adventledger/Promotion$Badge" "SANTA" "Lcom/example/advent_ledger/adventledger/Promotion$Badge;" (.ref w_SANTA)) (Ar_w_BADGES : Arr Z h0 w_BADGES cl_w_BADGES (.object "com/example/advent_ledger/adventledger/Promotion$Badge")) (hz : z_w_BADGES = (4 : Int32)) (hsz : cl_w_BADGES.slots.size = 4) (hat_0 : cl_w_BADGES.slots[0]? = some (.ref w_NONE)) (hat_1 : cl_w_BADGES.slots[1]? = some (.ref w_STAR)) (hat_2 : cl_w_BADGES.slots[2]? = some (.ref w_TREE)) (hat_3 : cl_w_BADGES.slots[3]? = some (.ref w_SANTA)) (F_NONE : Fld Z h0 w_NONE "com/example/advent_ledger/adventledger/Promotion$Badge" "minimumBenefit" "J" (.long (0 : Int64))) (F_STAR : Fld Z h0 w_STAR "com/example/advent_ledger/adventledger/Promotion$Badge" "minimumBenefit" "J" (.long (5000 : Int64))) (F_TREE : Fld Z h0 w_TREE "com/example/advent_ledger/adventledger/Promotion$Badge" "minimumBenefit" "J" (.long (10000 : Int64))) (F_SANTA : Fld Z h0 w_SANTA "com/example/advent_ledger/adventledger/Promotion$Badge" "minimumBenefit" "J" (.long (20000 : Int64))) (S_w_BADGES : cl_w_BADGES.slots.size = z_w_BADGES.toNatClampNeg) (N_w_BADGES : ¬ z_w_BADGES < 0) :
    MetFree l x (head1 (Jvm.Cond.code x code maxLocals ret :: ws) room_1) (fun a U => a = #[(.long q1), (.int p2)] ∧ Z.Warmed39 U.vm ∧ U.heap = h0) (fun _ _ _ _ _ => True) (fun _ U o U' => ∃ v L, o = .returned v ∧ QR (some (.int (1 : Int32))) h0 n0 v U'.heap L ∧ FrameEnd U o U' L room_1.cells room_1.slots) := by
  refine MetFree.of_bodySF (plainFor_of_name pn_0) hisR ?_
  intro p e s m args below meth c s₁ Bd hml0 hP hK
  obtain ⟨rfl, hZ, hh⟩ := hP
  have hx := Bd.exec
  have hby := Bd.bytes
  have hml : c.maxLocals = 10 := hml0
  have hown : s.vm.findClass "com/example/advent_ledger/adventledger/BadgeEarnedByPinLaw" = some m.cls := findClass_of_methodNamed Bd.named
  have hnm := (name_of_methodNamed Bd.named Bd.method).1
  have X0 : Stand p l e room_1 s m #[(.long q1), (.int p2)] below meth c s₁ [] 0 0 := Stand.of_body Bd
  have e0 : s₁.heap = h0 := by rw [← hh, Bd.state]; rfl
  have N0 := Fr.nil n0
  have pre0 : ∀ t, Steps p.tables e below (s₁.setTop (mkF m 0 #[.val (.long q1), .second, .val (.int p2), .unset, .unset, .unset, .unset, .unset, .unset, .unset] [])) t → Steps p.tables e below (s₁.setTop (entryFrame m #[(.long q1), (.int p2)] maxLocals)) t := fun t k => castTop (ef_0 m q1 p2) k
  obtain ⟨t3, T3, X3, e3, st3⟩ := sa q1 p2 X0 hx hZ hw hby hml hown e0
  obtain ⟨_, _, ⟨T4, L4, k4, n4⟩, -, X4, ⟨Lc4, hQ4, l4, y4, z4⟩, st4⟩ := Jvm.LawKit.callS X3 hx (y := (⟨"com/example/advent_ledger/adventledger/Promotion$Badge", "earnedBy", "(J)Lcom/example/advent_ledger/adventledger/Promotion$Badge;"⟩ : MethodName)) hown (mvT hZ (hw _ (List.mem_of_getElem? (i := 2) rfl))) (mvT hZ (hw _ (List.mem_of_getElem? (i := 3) rfl))) (mvT hZ (hw _ (List.mem_of_getElem? (i := 4) rfl))) (mvT hZ (hw _ (List.mem_of_getElem? (i := 5) rfl))) (by decide) (backOf (W := 0) (rm1_t l Z a0 hw [] t3 w_NONE w_BADGES w_STAR w_TREE w_SANTA cl_w_BADGES z_w_BADGES h0 n0 Z0 S_NONE S_BADGES S_STAR S_TREE S_SANTA Ar_w_BADGES hz hsz hat_0 hat_1 hat_2 hat_3 F_NONE F_STAR F_TREE F_SANTA S_w_BADGES N_w_BADGES (by rw [hz]; decide)) hZ (hw _ (List.mem_of_getElem? (i := 5) rfl)) (hw _ (List.mem_of_getElem? (i := 4) rfl)) (by decide) (by decide)) (g := (mkF m 127 #[.val (.long q1), .second, .val (.int p2), .val (.int (p2 &&& (7 : Int32))), .val (.long ((((p2.toUInt32 >>> ((3 : Int32) &&& 31).toUInt32).toInt32) &&& (3 : Int32)).toInt64)), .second, .val (.long t3), .second, .unset, .unset] [(.long t3)])) rfl (by rw [hml]; rfl) (argsL := [(.long t3)]) (rest := []) (lenOf pd_0_0 rfl) rfl (by show 2 * 0 + _ ≤ _; exact Nat.le_of_eq rfl) (hb hby at_127) (fun _ _ => ⟨rfl, e3, (by decide : 0 + 0 ≤ _), (by decide : 0 + 0 ≤ _)⟩)
  dsimp only [Pt.U, Pt.locs, Pt.cells, Pt.slots] at X4 l4 y4 z4 st4 hQ4
  subst l4 y4 z4
  obtain ⟨rfl, N4q, eq4⟩ := hQ4
  have N4 := Fr.app N0 N4q
  obtain ⟨r5, T5, X5, e5, st5⟩ := sb q1 p2 (p2 &&& (7 : Int32)) ((((p2.toUInt32 >>> ((3 : Int32) &&& 31).toUInt32).toInt32) &&& (3 : Int32)).toInt64) t3 w_NONE w_BADGES w_STAR w_TREE w_SANTA X4 hx hZ hw hby hml hown eq4 S_NONE S_BADGES S_STAR S_TREE S_SANTA
  obtain ⟨fs, hr, hrun, hended, hW, hsame⟩ := X5.leave (v := some (.int (1 : Int32))) (fun h => by rw [Bd.returns] at h; cases h)
  refine ⟨_, _, pre0 _ ?_, hrun, hended, _, _, rfl, ?_, ⟨_, rfl⟩, hW, hsame.mono (by decide) (by decide)⟩
  · show Steps p.tables e below (s₁.setTop (mkF m 0 #[.val (.long q1), .second, .val (.int p2), .unset, .unset, .unset, .unset, .unset, .unset, .unset] [])) _
    refine st3 _ ?_
    show Steps p.tables e below (T3.setTop (mkF m 125 #[.val (.long q1), .second, .val (.int p2), .val (.int (p2 &&& (7 : Int32))), .val (.long ((((p2.toUInt32 >>> ((3 : Int32) &&& 31).toUInt32).toInt32) &&& (3 : Int32)).toInt64)), .second, .val (.long t3), .second, .unset, .unset] [])) _
    refine XS.lload X3.here hx rfl (hb hby at_125) rfl ?_
    show Steps p.tables e below (T3.setTop (mkF m 127 #[.val (.long q1), .second, .val (.int p2), .val (.int (p2 &&& (7 : Int32))), .val (.long ((((p2.toUInt32 >>> ((3 : Int32) &&& 31).toUInt32).toInt32) &&& (3 : Int32)).toInt64)), .second, .val (.long t3), .second, .unset, .unset] [(.long t3)])) _
    refine st4 _ ?_
    show Steps p.tables e below (T4.setTop (mkF m 130 #[.val (.long q1), .second, .val (.int p2), .val (.int (p2 &&& (7 : Int32))), .val (.long ((((p2.toUInt32 >>> ((3 : Int32) &&& 31).toUInt32).toInt32) &&& (3 : Int32)).toInt64)), .second, .val (.long t3), .second, .unset, .unset] [(.ref (sel t3 (20000 : Int64) w_SANTA (sel t3 (10000 : Int64) w_TREE (sel t3 (5000 : Int64) w_STAR (sel t3 (0 : Int64) w_NONE w_NONE)))))])) _
    refine XS.astore X4.here hx rfl (hb hby at_130) rfl rfl (l' := #[.val (.long q1), .second, .val (.int p2), .val (.int (p2 &&& (7 : Int32))), .val (.long ((((p2.toUInt32 >>> ((3 : Int32) &&& 31).toUInt32).toInt32) &&& (3 : Int32)).toInt64)), .second, .val (.long t3), .second, .val (.ref (sel t3 (20000 : Int64) w_SANTA (sel t3 (10000 : Int64) w_TREE (sel t3 (5000 : Int64) w_STAR (sel t3 (0 : Int64) w_NONE w_NONE))))), .unset]) rfl ?_
    show Steps p.tables e below (T4.setTop (mkF m 132 #[.val (.long q1), .second, .val (.int p2), .val (.int (p2 &&& (7 : Int32))), .val (.long ((((p2.toUInt32 >>> ((3 : Int32) &&& 31).toUInt32).toInt32) &&& (3 : Int32)).toInt64)), .second, .val (.long t3), .second, .val (.ref (sel t3 (20000 : Int64) w_SANTA (sel t3 (10000 : Int64) w_TREE (sel t3 (5000 : Int64) w_STAR (sel t3 (0 : Int64) w_NONE w_NONE))))), .unset] [])) _
    refine st5 _ ?_
    show Steps p.tables e below (T5.setTop (mkF m 200 #[.val (.long q1), .second, .val (.int p2), .val (.int (p2 &&& (7 : Int32))), .val (.long ((((p2.toUInt32 >>> ((3 : Int32) &&& 31).toUInt32).toInt32) &&& (3 : Int32)).toInt64)), .second, .val (.long t3), .second, .val (.ref (sel t3 (20000 : Int64) w_SANTA (sel t3 (10000 : Int64) w_TREE (sel t3 (5000 : Int64) w_STAR (sel t3 (0 : Int64) w_NONE w_NONE))))), .val (.ref r5)] [(.int (1 : Int32))])) _
    exact retN X5 hx (t := .boolean) Bd.returns (by simp) (hb hby at_200) hr
  · show QR (some (.int (1 : Int32))) h0 n0 _ T5.heap _
    rw [e5]
    exact ⟨rfl, N4, rfl⟩

set_option maxRecDepth 65536 in
set_option maxHeartbeats 40000000 in
theorem comes_1 {Post : Tables → Env → Array Value → State → Outcome → State → Prop} (hpost : ∀ tb e args s v u, (limb_1_1.after args s (.returned v) u = true ∧ limb_1_2.after args s (.returned v) u = true ∧ True) → FrameEnd s (.returned v) u (Jvm.fieldLocs frame_1_writes args s ++ Jvm.arrayLocs frame_1_arrays args s ++ Jvm.staticLocs frame_1_statics s) 0 0 → Post tb e args s (.returned v) u) :
    ArmFor flags0 classFile x code maxLocals ret World_1 tables_1 room_1 Calls_1 rest_1 Pre_1 Post := by
  intro l hfl _ _ p e ha hc hk s m args below hf hA hF happ hP
  obtain ⟨hcalls, hrest, hpre⟩ := hP
  obtain ⟨-, -, -, hnamed, -, -, -, hat⟩ := (Spec.applies_iff hf).mp happ
  obtain ⟨hg, hn⟩ := and_e (Cond.before_iff.mp (show (Jvm.Cond.and given_1 narrow_1).before args s = true from hpre))
  obtain ⟨g6, g7⟩ := and_e hg
  obtain ⟨g8, g9⟩ := and_e g7
  obtain ⟨w0, w1, rfl⟩ : ∃ w0 w1 : Value, args = #[w0, w1] := by
    have hs : args.size = 2 := by simpa [Cond.value, given_1] using g6
    obtain ⟨L⟩ := args
    match L, hs with
    | [w0, w1], _ => exact ⟨w0, w1, rfl⟩
  have hw := fun d (hd : d ∈ tables_1) => atoms_spec (ws := Jvm.Cond.code x code maxLocals ret :: tables_1) hat d (List.mem_cons_of_mem _ hd)
  have hfit : Fit s := fun {y c} hc i hi => by
    obtain ⟨ha, rfl⟩ := Array.getElem?_eq_some_iff.mp hc
    have q := List.all_eq_true.mp ((Array.all_eq_true_iff_forall_mem.mp hF) _ (Array.getElem_mem ha)) i (List.mem_range.mpr hi)
    simpa [Array.getElem?_eq_getElem hi] using q
  obtain ⟨i0, ei0⟩ := isL_v g8
  obtain rfl : w0 = (.long i0) := Option.some.inj ei0
  obtain ⟨i1, ei1⟩ := is_v g9
  obtain rfl : w1 = (.int i1) := Option.some.inj ei1
  obtain ⟨n0, hn⟩ := and_e hn
  obtain ⟨n1, hn⟩ := and_e hn
  obtain ⟨n2, hn⟩ := and_e hn
  obtain ⟨n3, hn⟩ := and_e hn
  obtain ⟨n4, hn⟩ := and_e hn
  obtain ⟨n5, hn⟩ := and_e hn
  obtain ⟨n6, hn⟩ := and_e hn
  obtain ⟨n7, hn⟩ := and_e hn
  obtain ⟨n8, hn⟩ := and_e hn
  obtain ⟨n9, hn⟩ := and_e hn
  obtain ⟨n10, hn⟩ := and_e hn
  obtain ⟨n11, hn⟩ := and_e hn
  obtain ⟨n12, n13⟩ := and_e hn
  obtain ⟨w_NONE, v_NONE, S_NONE, E_NONE⟩ := own_sta (hw _ (List.mem_of_getElem? (i := 4) rfl)) (hw _ (List.mem_of_getElem? (i := 7) rfl)) n0
  obtain ⟨w_STAR, v_STAR, S_STAR, E_STAR⟩ := own_sta (hw _ (List.mem_of_getElem? (i := 4) rfl)) (hw _ (List.mem_of_getElem? (i := 12) rfl)) n5
  obtain ⟨w_TREE, v_TREE, S_TREE, E_TREE⟩ := own_sta (hw _ (List.mem_of_getElem? (i := 4) rfl)) (hw _ (List.mem_of_getElem? (i := 13) rfl)) n8
  obtain ⟨w_SANTA, v_SANTA, S_SANTA, E_SANTA⟩ := own_sta (hw _ (List.mem_of_getElem? (i := 4) rfl)) (hw _ (List.mem_of_getElem? (i := 14) rfl)) n11
  obtain ⟨w_BADGES, v_B⟩ := arr_v n1
  obtain ⟨cl, Ar_w_BADGES⟩ := Arr.start v_B n1
  have S_BADGES := Sta.start v_B (Or.inr ⟨(hw _ (List.mem_of_getElem? (i := 4) rfl)), (hw _ (List.mem_of_getElem? (i := 9) rfl))⟩)
  have hsz : cl.slots.size = 4 := own_len (n := 4) rfl v_B (Ar_w_BADGES.fin (Vm.Alike.refl _)) n2
  have hat_0 : cl.slots[0]? = some (.ref w_NONE) := own_elem v_B Ar_w_BADGES.1 v_NONE n3
  have F_NONE := own_fldL v_NONE n4
  have hat_1 : cl.slots[1]? = some (.ref w_STAR) := own_elem v_B Ar_w_BADGES.1 v_STAR n6
  have F_STAR := own_fldL v_STAR n7
  have hat_2 : cl.slots[2]? = some (.ref w_TREE) := own_elem v_B Ar_w_BADGES.1 v_TREE n9
  have F_TREE := own_fldL v_TREE n10
  have hat_3 : cl.slots[3]? = some (.ref w_SANTA) := own_elem v_B Ar_w_BADGES.1 v_SANTA n12
  have F_SANTA := own_fldL v_SANTA n13
  obtain ⟨n, o, h1, h2, h3, _, L, rfl, ⟨rfl, N, -⟩, hq⟩ := rm0 l s _ hw tables_1 i0 i1 w_NONE w_BADGES w_STAR w_TREE w_SANTA cl 4 s.heap s.heap.size (Nat.le_refl _) S_NONE S_BADGES S_STAR S_TREE S_SANTA Ar_w_BADGES rfl hsz hat_0 hat_1 hat_2 hat_3 F_NONE F_STAR F_TREE F_SANTA hsz (by decide) p e ha hc hk s m _ below hf ((Spec.applies_iff_loose hf).mp happ).1 ⟨rfl, State.Warmed39.refl s, rfl⟩ trivial
  refine ⟨n, _, h1, h2, h3, hpost _ _ _ _ _ _ ⟨Cond.after_iff.mpr rfl, Cond.after_iff.mpr (eq_i res_at (Term.int_eval (1)) rfl), trivial⟩ ⟨hq.1, hq.2.1, (hq.2.2.sift fun y hy => Or.inr (N y hy)).mono (by decide) (by decide)⟩⟩
theorem main_1_1 : Claimed_1_1 := comes_1 fun _ _ _ _ _ _ h hF => ⟨h.1, hF⟩
theorem main_1_2 : Claimed_1_2 := comes_1 fun _ _ _ _ _ _ h hF => ⟨h.2.1, hF⟩

end Jvm.Pilot.@@N@@
namespace Jvm.Pilot.@@N@@
open Jvm Jvm.ClassFile Sem Op Lib Jvm.Free Jvm.Stand Jvm.Pilot.@@N@@.Jvm.D
/-! MADE BY PROGRAM (witnessworld.py) out of the Statement's table words and the real class files: 13 classes; the members and pool entries that the words name. The judged class is class 1, her method 1. -/
namespace start1
open Jvm.ClassFile
def u (s : String) : CpInfo := .utf8 (stringToUtf16 s)
/-- a pool by its gaps: so many unusable entries, then the entry; so many at the end -/
def gap : Nat → List CpInfo → List CpInfo
  | 0, r => r
  | n + 1, r => .unusable :: gap n r
def poolList (es : List (Nat × CpInfo)) (last : Nat) : List CpInfo := es.foldr (fun e r => gap e.1 (e.2 :: r)) (gap last [])
def pool (es : List (Nat × CpInfo)) (last : Nat) : Array CpInfo := ⟨poolList es last⟩
def fileOf (pool : Array CpInfo) (this : Nat) (attrs : Array Attribute := #[]) (ms : Array MethodInfo := #[]) (fl : Nat := 33) (sup : Nat := 0) (ifs : Array Nat := #[]) (fds : Array FieldInfo := #[]) : ClassFile where
  minorVersion := 0
  majorVersion := 65
  constantPool := pool
  accessFlags := fl
  thisClass := this
  superClass := sup
  interfaces := ifs
  fields := fds
  methods := ms
  attributes := attrs
def plain (name : String) (sup : Option ClassId) : Class where
  name := name
  kind := .ordinary
  loader := none
  accessFlags := 33
  super := sup
  interfaces := #[]
  cf := none
  fields := #[]
  methods := #[]
  instanceTypes := #[]
  staticTypes := #[]
  resolved := #[]
  callSites := []
  init := .initialized
  statics := none
  mirror := none

def pool0 : Array CpInfo := pool [(5, u "<init>"), (0, u "()V"), (1, .class_ 10), (1, u "java/lang/Object")] 113

def k0m0 : Method := { name := "<init>", desc := "()V", sig := { parameters := [], returnType := none }, accessFlags := 1, code := none }
/-- java/lang/Object -/
def k0 : Class := { plain "java/lang/Object" none with
  accessFlags := 33
  interfaces := #[]
  cf := some (fileOf pool0 8 #[] #[{ accessFlags := 1, nameIndex := 5, descriptorIndex := 6, attributes := #[] }] 33 0 #[] #[])
  fields := #[]
  methods := #[k0m0]
  instanceTypes := #[]
  staticTypes := #[]
  resolved := Array.replicate 124 none
  statics := none }

def pool1 : Array CpInfo := pool [(2, .class_ 4), (1, u "java/lang/Object"), (0, u "<init>"), (0, u "()V"), (0, .long 2), (1, .long 5000), (1, .long 10000), (1, .long 20000), (3, .long 9223372036854775808), (1, .long 9223372036854775807), (1, .methodref 22 23), (0, .class_ 24), (0, .nameAndType 25 26), (0, u "com/example/advent_ledger/adventledger/Promotion$Badge"), (0, u "earnedBy"), (0, u "(J)Lcom/example/advent_ledger/adventledger/Promotion$Badge;"), (0, .fieldref 22 28), (0, .nameAndType 29 30), (0, u "SANTA"), (0, u "Lcom/example/advent_ledger/adventledger/Promotion$Badge;"), (0, .fieldref 22 32), (0, .nameAndType 33 30), (0, u "TREE"), (0, .fieldref 22 35), (0, .nameAndType 36 30), (0, u "STAR"), (0, .fieldref 22 38), (0, .nameAndType 39 30), (0, u "NONE"), (0, .class_ 41), (0, u "com/example/advent_ledger/adventledger/BadgeEarnedByPinLaw"), (2, u "law"), (0, u "(JI)Z")] 7

def k1m0 : Method := { name := "<init>", desc := "()V", sig := { parameters := [], returnType := none }, accessFlags := 1, code := none }
def k1c1 : Code := { maxStack := 4, maxLocals := 10, code := code, exceptionTable := #[], attributes := #[] }
def k1m1 : Method := { name := "law", desc := "(JI)Z", sig := { parameters := [.long, .int], returnType := some .boolean }, accessFlags := 9, code := some k1c1 }
/-- com/example/advent_ledger/adventledger/BadgeEarnedByPinLaw -/
def k1 : Class := { plain "com/example/advent_ledger/adventledger/BadgeEarnedByPinLaw" (some 0) with
  accessFlags := 49
  interfaces := #[]
  cf := some (fileOf pool1 40 #[] #[{ accessFlags := 1, nameIndex := 5, descriptorIndex := 6, attributes := #[] }, { accessFlags := 9, nameIndex := 44, descriptorIndex := 45, attributes := #[] }] 49 2 #[] #[])
  fields := #[]
  methods := #[k1m0, k1m1]
  instanceTypes := #[]
  staticTypes := #[]
  resolved := Array.replicate 53 none
  statics := none }

def pool2 : Array CpInfo := pool [(1, .class_ 2), (0, u "java/lang/constant/Constable"), (0, .class_ 4), (0, u "java/lang/Object")] 6

/-- java/lang/constant/Constable -/
def k2 : Class := { plain "java/lang/constant/Constable" (some 0) with
  accessFlags := 1537
  interfaces := #[]
  cf := some (fileOf pool2 1 #[] #[] 1537 3 #[] #[])
  fields := #[]
  methods := #[]
  instanceTypes := #[]
  staticTypes := #[]
  resolved := Array.replicate 11 none
  statics := none }

def pool3 : Array CpInfo := pool [(1, .class_ 2), (0, u "java/lang/Comparable"), (0, .class_ 4), (0, u "java/lang/Object")] 7

/-- java/lang/Comparable -/
def k3 : Class := { plain "java/lang/Comparable" (some 0) with
  accessFlags := 1537
  interfaces := #[]
  cf := some (fileOf pool3 1 #[] #[] 1537 3 #[] #[])
  fields := #[]
  methods := #[]
  instanceTypes := #[]
  staticTypes := #[]
  resolved := Array.replicate 12 none
  statics := none }

def pool4 : Array CpInfo := pool [(1, .class_ 2), (0, u "java/io/Serializable"), (0, .class_ 4), (0, u "java/lang/Object")] 2

/-- java/io/Serializable -/
def k4 : Class := { plain "java/io/Serializable" (some 0) with
  accessFlags := 1537
  interfaces := #[]
  cf := some (fileOf pool4 1 #[] #[] 1537 3 #[] #[])
  fields := #[]
  methods := #[]
  instanceTypes := #[]
  staticTypes := #[]
  resolved := Array.replicate 7 none
  statics := none }

def pool5 : Array CpInfo := pool [(2, .class_ 4), (1, u "java/lang/Enum"), (0, u "name"), (0, u "Ljava/lang/String;"), (2, u "ordinal"), (0, u "I"), (1, .class_ 14), (1, u "java/lang/Object"), (4, u "hash"), (86, .class_ 108), (1, u "java/lang/Enum$EnumDesc"), (2, .class_ 112), (0, u "java/lang/constant/Constable"), (0, .class_ 114), (0, u "java/lang/Comparable"), (0, .class_ 116), (0, u "java/io/Serializable")] 87

/-- java/lang/Enum -/
def k5 : Class := { plain "java/lang/Enum" (some 0) with
  accessFlags := 1057
  interfaces := #[2, 3, 4]
  cf := some (fileOf pool5 2 #[.nestMembers #[106]] #[] 1057 12 #[111, 113, 115] #[{ accessFlags := 18, nameIndex := 5, descriptorIndex := 6, attributes := #[] }, { accessFlags := 18, nameIndex := 9, descriptorIndex := 10, attributes := #[] }, { accessFlags := 2, nameIndex := 19, descriptorIndex := 10, attributes := #[] }])
  fields := #[{ name := "name", type := (.object "java/lang/String"), accessFlags := 18, slot := 0, constantValue := 0 }, { name := "ordinal", type := .int, accessFlags := 18, slot := 1, constantValue := 0 }, { name := "hash", type := .int, accessFlags := 2, slot := 2, constantValue := 0 }]
  methods := #[]
  instanceTypes := #[(.object "java/lang/String"), .int, .int]
  staticTypes := #[]
  resolved := Array.replicate 204 none
  statics := none }

def pool6 : Array CpInfo := pool [(1, .class_ 2), (0, u "com/example/advent_ledger/adventledger/Promotion$Badge"), (0, .fieldref 1 4), (0, .nameAndType 5 6), (0, u "NONE"), (0, u "Lcom/example/advent_ledger/adventledger/Promotion$Badge;"), (2, u "STAR"), (2, u "TREE"), (2, u "SANTA"), (2, u "$VALUES"), (0, u "[Lcom/example/advent_ledger/adventledger/Promotion$Badge;"), (6, .class_ 28), (1, u "java/lang/Enum"), (8, u "badgeName"), (0, u "Ljava/lang/String;"), (0, .fieldref 1 40), (0, .nameAndType 41 42), (0, u "minimumBenefit"), (0, u "J"), (0, .fieldref 1 44), (0, .nameAndType 45 19), (0, u "BADGES"), (34, u "earnedBy"), (0, u "(J)Lcom/example/advent_ledger/adventledger/Promotion$Badge;"), (8, .class_ 91), (0, u "com/example/advent_ledger/adventledger/Promotion")] 2

def k6c0 : Code := { maxStack := 4, maxLocals := 7, code := prog_28_method_4_code, exceptionTable := #[], attributes := #[] }
def k6m0 : Method := { name := "earnedBy", desc := "(J)Lcom/example/advent_ledger/adventledger/Promotion$Badge;", sig := { parameters := [.long], returnType := some (.object "com/example/advent_ledger/adventledger/Promotion$Badge") }, accessFlags := 8, code := some k6c0 }
/-- com/example/advent_ledger/adventledger/Promotion$Badge -/
def k6 : Class := { plain "com/example/advent_ledger/adventledger/Promotion$Badge" (some 5) with
  accessFlags := 16433
  interfaces := #[]
  cf := some (fileOf pool6 1 #[.nestHost 90] #[{ accessFlags := 8, nameIndex := 80, descriptorIndex := 81, attributes := #[] }] 16433 26 #[] #[{ accessFlags := 16409, nameIndex := 5, descriptorIndex := 6, attributes := #[] }, { accessFlags := 16409, nameIndex := 9, descriptorIndex := 6, attributes := #[] }, { accessFlags := 16409, nameIndex := 12, descriptorIndex := 6, attributes := #[] }, { accessFlags := 16409, nameIndex := 15, descriptorIndex := 6, attributes := #[] }, { accessFlags := 26, nameIndex := 45, descriptorIndex := 19, attributes := #[] }, { accessFlags := 18, nameIndex := 37, descriptorIndex := 38, attributes := #[] }, { accessFlags := 18, nameIndex := 41, descriptorIndex := 42, attributes := #[] }, { accessFlags := 4122, nameIndex := 18, descriptorIndex := 19, attributes := #[] }])
  fields := #[{ name := "NONE", type := (.object "com/example/advent_ledger/adventledger/Promotion$Badge"), accessFlags := 16409, slot := 0, constantValue := 0 }, { name := "STAR", type := (.object "com/example/advent_ledger/adventledger/Promotion$Badge"), accessFlags := 16409, slot := 1, constantValue := 0 }, { name := "TREE", type := (.object "com/example/advent_ledger/adventledger/Promotion$Badge"), accessFlags := 16409, slot := 2, constantValue := 0 }, { name := "SANTA", type := (.object "com/example/advent_ledger/adventledger/Promotion$Badge"), accessFlags := 16409, slot := 3, constantValue := 0 }, { name := "BADGES", type := (.array (.object "com/example/advent_ledger/adventledger/Promotion$Badge")), accessFlags := 26, slot := 4, constantValue := 0 }, { name := "badgeName", type := (.object "java/lang/String"), accessFlags := 18, slot := 3, constantValue := 0 }, { name := "minimumBenefit", type := .long, accessFlags := 18, slot := 4, constantValue := 0 }, { name := "$VALUES", type := (.array (.object "com/example/advent_ledger/adventledger/Promotion$Badge")), accessFlags := 4122, slot := 5, constantValue := 0 }]
  methods := #[k6m0]
  instanceTypes := #[(.object "java/lang/String"), .int, .int, (.object "java/lang/String"), .long]
  staticTypes := #[(.object "com/example/advent_ledger/adventledger/Promotion$Badge"), (.object "com/example/advent_ledger/adventledger/Promotion$Badge"), (.object "com/example/advent_ledger/adventledger/Promotion$Badge"), (.object "com/example/advent_ledger/adventledger/Promotion$Badge"), (.array (.object "com/example/advent_ledger/adventledger/Promotion$Badge")), (.array (.object "com/example/advent_ledger/adventledger/Promotion$Badge"))]
  resolved := Array.replicate 94 none
  statics := some 0 }

def pool7 : Array CpInfo := pool [(1, u "java/lang/Cloneable"), (0, .class_ 1), (0, u "java/lang/Object"), (0, .class_ 3)] 3

/-- java/lang/Cloneable -/
def k7 : Class := { plain "java/lang/Cloneable" (some 0) with
  accessFlags := 1537
  interfaces := #[]
  cf := some (fileOf pool7 2 #[] #[] 1537 4 #[] #[])
  fields := #[]
  methods := #[]
  instanceTypes := #[]
  staticTypes := #[]
  resolved := Array.replicate 8 none
  statics := none }

/-- the primitive byte -/
def k8 : Class := { plain "byte" none with kind := .primitive 'B', accessFlags := 0x411 }
/-- [B -/
def k9 : Class := { plain "[B" (some 0) with kind := .array 8 .byte, interfaces := #[7, 4], accessFlags := 1041 }

/-- the primitive int -/
def k10 : Class := { plain "int" none with kind := .primitive 'I', accessFlags := 0x411 }
/-- [I -/
def k11 : Class := { plain "[I" (some 0) with kind := .array 10 .int, interfaces := #[7, 4], accessFlags := 1041 }

/-- [Lcom/example/advent_ledger/adventledger/Promotion$Badge; -/
def k12 : Class := { plain "[Lcom/example/advent_ledger/adventledger/Promotion$Badge;" (some 0) with kind := .array 6 (.object "com/example/advent_ledger/adventledger/Promotion$Badge"), interfaces := #[7, 4], accessFlags := 1041 }

def heap : Heap := #[{ cls := 6, slots := #[.ref 2, .ref 3, .ref 4, .ref 5, .ref 1, .null], vm := .statics 6 },
  { cls := 12, slots := #[.ref 2, .ref 3, .ref 4, .ref 5], vm := .none },
  { cls := 6, slots := #[.null, .int 0, .int 0, .null, .long 0], vm := .none },
  { cls := 6, slots := #[.null, .int 1, .int 0, .null, .long 5000], vm := .none },
  { cls := 6, slots := #[.null, .int 2, .int 0, .null, .long 10000], vm := .none },
  { cls := 6, slots := #[.null, .int 3, .int 0, .null, .long 20000], vm := .none }]
def classes : Array Class := #[k0, k1, k2, k3, k4, k5, k6, k7, k8, k9, k10, k11, k12]
def interned : List (Array UInt16 × Addr) := []
def slotsUsed : Nat := 30
def theMethod : MethodId := ⟨1, 1⟩
def args0 : Array Value := #[.long 12000, .int 7]
def aboutOver (below : List Frame) : State where
  vm := { classes := classes, interned := interned.toArray }
  heap := heap
  slotsUsed := slotsUsed
  threads := #[{ frames := .invoking theMethod args0 :: below }]
def below0 : List Frame := [.native { method := ⟨0, 0⟩, args := #[] }]
def about1 : State := aboutOver below0
def p0 : Program := .bare "" "" ""
def e0 : Env := launch0.env 0 0 0
theorem w_frames : about1.frames = Frame.invoking theMethod args0 :: below0 := rfl
set_option maxRecDepth 65536 in
theorem w_args : argsFit about1.vm theMethod args0 = true := by decide +kernel
set_option maxRecDepth 65536 in
theorem w_heap : heapFits about1 = true := by decide +kernel
set_option maxRecDepth 65536 in
theorem w_runnable : about1.curStatus? = some .runnable := by decide +kernel
set_option maxRecDepth 65536 in
theorem w_alone : about1.alone = true := by decide +kernel
set_option maxRecDepth 65536 in
theorem w_named : about1.methodNamed? x = some theMethod := by decide +kernel
set_option maxRecDepth 65536 in
theorem w_hears : about1.hears theMethod below0 = true := by decide +kernel
set_option maxRecDepth 65536 in
theorem w_ripe : about1.ripe theMethod args0 below0 = true := by decide +kernel
theorem w_running : about1.status = .running := rfl
set_option maxRecDepth 65536 in
theorem w_room : about1.hasRoom e0.platform room_1 = true :=
  launch0.hasRoom_least _ room_1 (by decide +kernel) (by decide +kernel) (by decide +kernel) (by decide +kernel) (by decide +kernel) (by decide +kernel)
theorem allAtoms_all (ts : List Jvm.Cond) (a : Array Jvm.Value) (st : Jvm.State) : (allAtoms ts).before a st = ts.all (fun c => c.before a st) := by
  induction ts with
  | nil => rfl
  | cons c t ih =>
    show (Jvm.Cond.and c (allAtoms t)).before a st = _
    rw [Jvm.Cond.before_and, ih, List.all_cons]
def words1 : List Jvm.Cond := Jvm.Cond.code x code maxLocals ret :: tables_1
/-- a 'code' word, met by the world's own term for the bytes: nothing is compared byte by byte -/
theorem code_word {y : MethodName} {bytes : ByteArray} {mx : Nat} {rt : Option FieldType} {a : Array Value} {s : State} {m : MethodId} {meth : Method} {c : Code} (h1 : s.methodNamed? y = some m) (h2 : s.vm.method? m = some meth) (h3 : meth.code = some c) (h4 : c.code = bytes)
    (h5 : (c.maxLocals == mx && c.exceptionTable.isEmpty && decide (c.maxStack ≤ mostOperands) && decide (meth.sig.returnType = rt) && !meth.locks && decide (parseMethodDescriptor y.desc = some meth.sig)) = true) : (Jvm.Cond.code y bytes mx rt).before a s = true := by
  simp only [Bool.and_eq_true, beq_iff_eq, Bool.not_eq_true', decide_eq_true_eq] at h5
  obtain ⟨⟨⟨⟨⟨g1, g2⟩, g3⟩, g4⟩, g5⟩, g6⟩ := h5
  simp [Cond.before, Cond.holds, Cond.value, h1, h2, h3, h4, g1, g2, g3, g4, g5, g6]
def isCode : Jvm.Cond → Bool
  | .code _ _ _ _ => true
  | _ => false
theorem all_split {L : List Jvm.Cond} {P : Jvm.Cond → Bool} (h1 : L.all (fun c => isCode c || P c) = true) (h2 : ∀ c ∈ L.filter isCode, P c = true) : L.all P = true := by
  refine List.all_eq_true.mpr fun c hc => ?_
  have h := List.all_eq_true.mp h1 c hc
  rcases Bool.eq_false_or_eq_true (isCode c) with hi | hi
  · exact h2 c (List.mem_filter.mpr ⟨hc, hi⟩)
  · simpa [hi] using h
set_option maxRecDepth 65536 in
theorem w_c0 : (Jvm.Cond.code x code maxLocals ret).before args0 about1 = true := code_word (m := ⟨1, 1⟩) (meth := k1m1) (c := k1c1) (by decide +kernel) rfl rfl rfl (by decide +kernel)
set_option maxRecDepth 65536 in
theorem w_c1 : (Jvm.Cond.code ({ cls := "com/example/advent_ledger/adventledger/Promotion$Badge", name := "earnedBy", desc := "(J)Lcom/example/advent_ledger/adventledger/Promotion$Badge;" } : Jvm.MethodName) prog_28_method_4_code (7 : Nat) (Option.some (Jvm.ClassFile.FieldType.object "com/example/advent_ledger/adventledger/Promotion$Badge"))).before args0 about1 = true := code_word (m := ⟨6, 0⟩) (meth := k6m0) (c := k6c0) (by decide +kernel) rfl rfl rfl (by decide +kernel)
def codes1 : List Jvm.Cond := [Jvm.Cond.code x code maxLocals ret, Jvm.Cond.code ({ cls := "com/example/advent_ledger/adventledger/Promotion$Badge", name := "earnedBy", desc := "(J)Lcom/example/advent_ledger/adventledger/Promotion$Badge;" } : Jvm.MethodName) prog_28_method_4_code (7 : Nat) (Option.some (Jvm.ClassFile.FieldType.object "com/example/advent_ledger/adventledger/Promotion$Badge"))]
set_option maxRecDepth 65536 in
theorem codes_eq : words1.filter isCode = codes1 := rfl
theorem w_codes : ∀ c ∈ words1.filter isCode, c.before args0 about1 = true := by
  rw [codes_eq]
  intro c hc
  simp only [codes1, List.mem_cons, List.not_mem_nil, or_false] at hc
  rcases hc with rfl | rfl
  · exact w_c0
  · exact w_c1
set_option maxRecDepth 65536 in
theorem w_t1 : words1.all (fun c => isCode c || c.before args0 about1) = true := by decide +kernel
theorem w_tables : (allAtoms (Jvm.Cond.code x code maxLocals ret :: tables_1)).before args0 about1 = true := by
  rw [allAtoms_all]
  show words1.all (fun c => c.before args0 about1) = true
  refine all_split ?_ w_codes
  rw [w_t1]
set_option maxRecDepth 65536 in
theorem w_case : (Jvm.Cond.and given_1 narrow_1).before args0 about1 = true := by decide +kernel
theorem w_applies : (headSpec (Jvm.Cond.code x code maxLocals ret :: tables_1) room_1).applies x e0.platform about1 = true :=
  (Spec.applies_iff w_frames).mpr ⟨w_running, w_runnable, w_alone, w_named, w_hears, w_ripe, w_room, w_tables⟩
theorem atStart : AtStart classFile x code maxLocals ret World_1 tables_1 room_1 Calls_1 rest_1 Pre_1 launch0 p0 e0 about1 theMethod args0 below0 :=
  ⟨lists_1, trivial, launch0.admits_env _ _ _, launch0.least_env, fairChoices_fair.cas, fairChoices_fair.clock, w_frames, w_args, w_heap, w_applies, trivial, trivial, w_case⟩
end start1
theorem witness_1 : WitnessClaimed_1 := ⟨start1.p0, start1.e0, start1.about1, start1.theMethod, start1.args0, start1.below0, start1.atStart⟩
end Jvm.Pilot.@@N@@
