import JvmDerived
import JvmDerived.Pilot.@@N@@Statement
import JvmDerived.Pilot.@@N@@Code
set_option linter.unusedVariables false
set_option linter.unusedSimpArgs false
namespace Jvm.RoadKit
open Sem ClassFile Op Lib Jvm.Stand Jvm.Free Jvm.LawKit
section New
variable {p : Program} {l : Launch} {e : Env} {R : Room} {s : State} {m : MethodId} {args : Array Value} {below : List Frame} {meth : Method} {c : Code} {T : State} {locs : List Loc} {cells slots : Nat}
theorem retI (X : Stand p l e R s m args below meth c T locs cells slots) (hx : p.tables.exec = Jvm.exec) {pc : Nat} {Ls : Array Slot} {z : Int32} {rest : List Value} (hret : meth.sig.returnType = some .int) (hd : decode c.code pc = .ok (.ireturn, 1)) {fs : List Frame}
    (hl : ∀ (f : JFrame) (acts : List Action), f.method = m → f.locked = none → f.entered = [] → (doReturn e (T.setTop f) acts (some (.int z))).1 = T.setFrames fs) : Steps p.tables e below (T.setTop (mkF m pc Ls (.int z :: rest))) (T.setFrames fs) := by
  have hm' : T.vm.method? m = some meth := X.method'
  have hn : narrow .int (.int z) = .int z := rfl
  show Steps p.tables e below (T.setTop { method := m, pc := pc, locals := Ls, stack := _ :: rest, locked := none }) _
  jvm_step X.here [X.here.top, hx, hd, hm', hret, hn]
  first | (intro acts; rw [hl _ acts rfl rfl rfl]) | rw [hl _ _ rfl rfl rfl]
  exact Steps.refl _
end New
section Own
variable {Z : State} {h0 h h' : Heap} {ws ws' : List (Addr × Nat)} {a : Addr} {sl : Nat} {v : Value} {C n d : String}
/-- own: what a call leaves as it was, by places: every cell is kept in class, kind and size; a place that isn't listed keeps its value -/
def KSx (h h' : Heap) (ws : List (Addr × Nat)) : Prop := h.size ≤ h'.size ∧ ∀ (x : Addr) (c : Cell), h[x]? = some c → ∃ c' : Cell, h'[x]? = some c' ∧ c'.cls = c.cls ∧ c'.vm = c.vm ∧ c'.slots.size = c.slots.size ∧ (∀ j, (∀ p ∈ ws, x ≠ p.1 ∨ j ≠ p.2) → c'.slots[j]? = c.slots[j]?) ∧ ((c.vm.isStatics = true ∨ ∀ p ∈ ws, x ≠ p.1) → c' = c)
theorem ks0 {P : Addr × Nat → Prop} : ∀ p ∈ ([] : List (Addr × Nat)), P p := fun _ q => nomatch q
theorem ksS {P : Addr × Nat → Prop} {y : Addr × Nat} {L : List (Addr × Nat)} (q : P y) (r : ∀ p ∈ L, P p) : ∀ p ∈ y :: L, P p := fun x z => (List.mem_cons.mp z).elim (fun u => u ▸ q) (r x)
theorem KSx.refl (h : Heap) (ws : List (Addr × Nat)) : KSx h h ws := ⟨Nat.le_refl _, fun _ c q => ⟨c, q, rfl, rfl, rfl, fun _ _ => rfl, fun _ => rfl⟩⟩
theorem KSx.ext (K : KSx h0 h ws) (E : Ext h h') : KSx h0 h' ws := ⟨Nat.le_trans K.1 E.1, fun x c q => by obtain ⟨c', q', r⟩ := K.2 x c q; exact ⟨c', E.2 x c' q', r⟩⟩
theorem KSx.trans (K : KSx h0 h ws) (K' : KSx h h' ws') (q : ∀ p ∈ ws', p ∈ ws ∨ h0.size ≤ p.1) : KSx h0 h' ws := by
  refine ⟨Nat.le_trans K.1 K'.1, fun x c hc => ?_⟩
  obtain ⟨c1, a1, a2, a3, a4, a5, a6⟩ := K.2 x c hc
  obtain ⟨c2, b1, b2, b3, b4, b5, b6⟩ := K'.2 x c1 a1
  have hx : x < h0.size := (Array.getElem?_eq_some_iff.mp hc).1
  refine ⟨c2, b1, b2.trans a2, b3.trans a3, b4.trans a4, fun j hj => ?_, fun hs => ?_⟩
  · refine (b5 j fun p hp => ?_).trans (a5 j hj)
    rcases q p hp with w | g
    · exact hj p w
    · exact Or.inl fun e => by subst e; exact absurd hx (Nat.not_lt.mpr g)
  · have e1 : c1 = c := a6 hs
    refine (b6 ?_).trans e1
    rcases hs with w | w
    · exact Or.inl (by rw [e1]; exact w)
    · refine Or.inr fun p hp => ?_
      rcases q p hp with y | g
      · exact w p y
      · exact fun e => by subst e; exact absurd hx (Nat.not_lt.mpr g)
theorem KSx.of_wr (W : Wr h h' a sl v) : KSx h h' [(a, sl)] := by
  refine ⟨Nat.le_of_eq W.size.symm, fun x c hc => ?_⟩
  obtain ⟨c', e1, e2, e3, e4, e5, e6, e7⟩ := wr_at W hc
  refine ⟨c', e1, e2, e3, e4, fun j hj => ?_, fun hs => ?_⟩
  · rcases hj (a, sl) (List.mem_singleton.mpr rfl) with y | y
    · rw [e5 y]
    · exact e6 j y
  · rcases hs with y | y
    · by_cases z : x = a
      · rw [(e7 z).2.2] at y; cases y
      · exact e5 z
    · exact e5 (y (a, sl) (List.mem_singleton.mpr rfl))
theorem KSx.wr (K : KSx h0 h ws) (W : Wr h h' a sl v) (q : (a, sl) ∈ ws ∨ h0.size ≤ a) : KSx h0 h' ws := K.trans (KSx.of_wr W) fun p hp => by cases List.mem_singleton.mp hp; exact q
theorem Fld.ks (F : Fld Z h a C n d v) (K : KSx h h' ws) (q : ∀ p ∈ ws, a ≠ p.1 ∨ slotOf Z C n d ≠ p.2) : Fld Z h' a C n d v := by
  obtain ⟨cell, cf, k, i, f, h1, h2, h3, h4, h5, h6, h7⟩ := F
  obtain ⟨c', e1, e2, e3, -, e5, -⟩ := K.2 _ _ h1
  refine ⟨c', cf, k, i, f, e1, h2, h3, by rw [e3]; exact h4, by rw [e3]; exact h5, by rw [e2]; exact h6, ?_⟩
  refine (e5 _ fun p hp => ?_).trans h7
  simpa [slotOf, h2] using q p hp
theorem Exa.ks (F : Exa Z h a C) (K : KSx h h' ws) : Exa Z h' a C := by
  obtain ⟨cell, k, h1, h2, h3, h4, h5⟩ := F
  obtain ⟨c', e1, e2, e3, e4, -⟩ := K.2 _ _ h1
  exact ⟨c', k, e1, by rw [e2]; exact h2, by rw [e2]; exact h3, by rw [e3]; exact h4, by rw [e4]; exact h5⟩
theorem Sta.ks (F : Sta Z h C n d v) (K : KSx h h' ws) : Sta Z h' C n d v := by
  obtain ⟨cf, i, k, f, st, cell, h1, h2, h3, h4, h5, h6, h7⟩ := F
  obtain ⟨c', e1, -, -, -, -, e6⟩ := K.2 _ _ h5
  exact ⟨cf, i, k, f, st, cell, h1, h2, h3, h4, (e6 (Or.inl h6)) ▸ e1, h6, h7⟩
theorem Arr.ks {c : Cell} {ty : FieldType} (F : Arr Z h a c ty) (K : KSx h h' ws) (q : ∀ p ∈ ws, a ≠ p.1) : Arr Z h' a c ty := by
  obtain ⟨c', e1, -, -, -, -, e6⟩ := K.2 _ _ F.1
  exact ⟨(e6 (Or.inr q)) ▸ e1, F.2⟩
theorem Arv.ks {k : ClassId} {ty : FieldType} {z : Int32} {vs : List Value} {dv : Value} (F : Arv Z h a k ty z vs dv) (K : KSx h h' ws) (q : ∀ p ∈ ws, a ≠ p.1) : Arv Z h' a k ty z vs dv := by obtain ⟨c, A, r⟩ := F; exact ⟨c, A.ks K q, r⟩
theorem own_fi {args : Array Value} {s : State} {t : Term} {k : Int32} (ht : t.eval args s none [] s = some (.ref a)) (hq : (Cond.eq (.field t C n d) (.int k)).value args s none s [] = some true) : Fld s s.heap a C n d (.int k) := by
  have e2 : (Term.int k).eval args s none [] s = some (.int k) := Term.int_eval k
  obtain ⟨x, y, e1, e3, -, k2⟩ := cmp_v (Or.inl hq)
  cases e2.symm.trans e3
  obtain ⟨z, rfl⟩ := k2
  have q : z = k := by simpa [Cond.value, e1, e2] using hq
  subst q
  exact Fld.start (by rw [← fld_at ht]; exact e1)
theorem own_fr {args : Array Value} {s : State} {t u : Term} {b : Addr} (ht : t.eval args s none [] s = some (.ref a)) (hu : u.eval args s none [] s = some (.ref b)) (hq : (Cond.eq (.field t C n d) u).value args s none s [] = some true) : Fld s s.heap a C n d (.ref b) := by
  obtain ⟨x, y, e1, e3, k1, k2⟩ := cmp_v (Or.inl hq)
  cases hu.symm.trans e3
  have hr : x.isRef = true := k2.2
  have q : x = .ref b := gotT (eq_R e1 hu hr rfl) hq
  subst q
  exact Fld.start (by rw [← fld_at ht]; exact e1)
theorem own_len {args : Array Value} {s : State} {t : Term} {k : Int32} {cl : Cell} {ty : FieldType} (ht : t.eval args s none [] s = some (.ref a)) (A : Arr s s.heap a cl ty) (hq : (Cond.eq (.length t) (.int k)).value args s none s [] = some true) : cl.slots.size < 2 ^ 31 ∧ cl.slots.size.toInt32 = k := by
  have e2 : (Term.int k).eval args s none [] s = some (.int k) := Term.int_eval k
  have ha : s.arrayAt? a = some cl := A.fin (Vm.Alike.refl _)
  obtain ⟨x, y, e1, e3, -, k2⟩ := cmp_v (Or.inl hq)
  cases e2.symm.trans e3
  obtain ⟨z, rfl⟩ := k2
  have q : z = k := by simpa [Cond.value, e1, e2] using hq
  subst q
  by_cases hl : cl.slots.size < 2 ^ 31
  · rw [len_f ht ha hl] at e1
    cases e1; exact ⟨hl, rfl⟩
  · simp [Term.eval, ht, ha, hl] at e1
theorem own_el {args : Array Value} {s : State} {t u : Term} {k : Int32} {b : Addr} {cl : Cell} {ty : FieldType} (ht : t.eval args s none [] s = some (.ref a)) (hu : u.eval args s none [] s = some (.ref b)) (A : Arr s s.heap a cl ty) (hq : (Cond.eq (.elem t (.int k)) u).value args s none s [] = some true) : cl.slots[k.toNatClampNeg]? = some (.ref b) := by
  obtain ⟨x, y, e1, e3, k1, k2⟩ := cmp_v (Or.inl hq)
  cases hu.symm.trans e3
  have q : x = .ref b := gotT (eq_R e1 hu k2.2 rfl) hq
  subst q
  exact (elem_in e1 ht (Term.int_eval k) A.1).2
theorem own_sel {s : State} {a0 args : Array Value} {y : MethodName} {k : Nat} (hZ : Z.Warmed39 s.vm) (wi : (Cond.instantiable y.cls k).before a0 Z = true) (wp : (Cond.privateMethod y).before a0 Z = true) (wm : (Cond.instanceMethod y).before a0 Z = true) (hy : y.cls ≠ "java/lang/invoke/MethodHandle" ∧ y.cls ≠ "java/lang/invoke/VarHandle") : (Cond.selects y.cls y y).before args s = true := by
  obtain ⟨c, kc, h1, h2, -, h4, -⟩ := Cond.instantiable_spec (mvT (args := args) hZ wi)
  exact selects_self_of_private h1 h2 (Bool.or_eq_false_iff.mp h4).1 (Cond.privateMethod_at (mvP hZ wp (args := args))) (mvT hZ wm) hy
end Own
end Jvm.RoadKit
namespace Jvm.Pilot.@@N@@
open Jvm Jvm.ClassFile Sem Op Lib Jvm.Free Jvm.Stand Jvm.LawKit Jvm.RoadKit Bundle Jvm.Pilot.@@N@@.Jvm.D
abbrev OMet (l : Launch) (Z : State) (y : MethodName) (bytes : ByteArray) (ml : Nat) (rt : Option FieldType) (ws : List Jvm.Cond) (rm : Room) (h0 : Heap) (as : Array Value) (Q : Option Value → Heap → List Loc → Prop) : Prop :=
  MetFree l y (head1 (Jvm.Cond.code y bytes ml rt :: ws) rm) (fun a U => a = as ∧ Z.Warmed39 U.vm ∧ U.heap = h0) (fun _ _ _ _ _ => True) (fun _ U o U' => ∃ v L, o = .returned v ∧ Q v U'.heap L ∧ FrameEnd U o U' L rm.cells rm.slots)
abbrev OMetS (l : Launch) (Z : State) (y : MethodName) (bytes : ByteArray) (ml : Nat) (rt : Option FieldType) (ws : List Jvm.Cond) (rm : Room) (h0 : Heap) (as : Array Value) (Q : Option Value → Heap → List Loc → Prop) : Prop :=
  MetFree l y (head1 (Jvm.Cond.code y bytes ml rt :: ws) rm) (fun a U => a = as ∧ Z.Warmed39 U.vm ∧ U.heap = h0) (fun _ _ _ _ _ => True) (fun _ U o U' => ∃ v L, o = .returned v ∧ Q v U'.heap L ∧ ReturnedEndW U o U' L rm.cells rm.slots)
def OQp (r : Option Value) (h0 : Heap) (n0 : Nat) (v : Option Value) (h : Heap) (L : List Loc) : Prop := v = r ∧ Fr n0 L ∧ h = h0
def OQl (r : Option Value) (n0 : Nat) (v : Option Value) (h : Heap) (L : List Loc) : Prop := v = r ∧ Fr n0 L
theorem own_rng {k n : Int32} {N : Nat} (h : 0 ≤ k.toInt ∧ k.toInt < N) : ∃ i : Fin N, k = Int32.ofInt i.1 := by
  refine ⟨⟨k.toInt.toNat, by omega⟩, ?_⟩
  show k = Int32.ofInt ((k.toInt.toNat : Nat) : Int)
  rw [Int.toNat_of_nonneg h.1]; exact (Int32.ofInt_toInt k).symm
theorem own_mod (x : Int32) (y : Int32) (hy : 0 < y.toInt) : 0 ≤ ((x &&& (2147483647 : Int32)) % y).toInt ∧ ((x &&& (2147483647 : Int32)) % y).toInt < y.toInt := by
  have h1 := c_mask x 2147483647 31 (by decide) (by decide)
  have h2 := (c_iremV (x &&& (2147483647 : Int32)) y).1 (by rw [h1]; exact Int.emod_nonneg _ (by decide)) hy
  exact ⟨h2.1, h2.2.1⟩
theorem own_b1 (x : Int32) : (x &&& (1 : Int32)) = (0 : Int32) ∨ (x &&& (1 : Int32)) = (1 : Int32) := by
  have h := c_mask x 1 1 (by decide) (by decide)
  have q : (x &&& (1 : Int32)).toInt = 0 ∨ (x &&& (1 : Int32)).toInt = 1 := by rw [h]; omega
  rcases q with q | q <;> simp [← Int32.toInt_inj, q]
theorem d1_0 : decode method_2_code 0 = .ok (.iload_n 0, 1) := by decide +kernel
theorem d1_1 : decode method_2_code 1 = .ok (.ldc 7, 2) := by decide +kernel
theorem d1_3 : decode method_2_code 3 = .ok (.iand, 1) := by decide +kernel
theorem d1_4 : decode method_2_code 4 = .ok (.bipush 7, 2) := by decide +kernel
theorem d1_6 : decode method_2_code 6 = .ok (.irem, 1) := by decide +kernel
theorem d1_7 : decode method_2_code 7 = .ok (.istore_n 1, 1) := by decide +kernel
theorem d1_8 : decode method_2_code 8 = .ok (.iload_n 1, 1) := by decide +kernel
theorem d1_9 : decode method_2_code 9 = .ok (.ifCond .ne 7, 3) := by decide +kernel
theorem d1_12 : decode method_2_code 12 = .ok (.getstatic 8, 3) := by decide +kernel
theorem d1_15 : decode method_2_code 15 = .ok (.areturn, 1) := by decide +kernel
theorem pn_com_example_transaction_scopes_transactionscopes_ScopeSettingsOfPinLaw : plainName "com/example/transaction_scopes/transactionscopes/ScopeSettingsOfPinLaw" = true := by first | (simp [plainName, overriddenIn]; done) | decide +kernel
theorem ef_1_v (m : MethodId) (x0 : Int32) : entryFrame m #[(.int x0)] 2 = mkF m 0 #[.val (.int x0), .unset] [] := by first | (simp [entryFrame, mkF, argsToLocals, Value.category]; done) | rfl
set_option maxRecDepth 65536 in
set_option maxHeartbeats 40000000 in
theorem r1_1 (l : Launch) (Z : State) (a0 : Array Value) (hw : ∀ d ∈ tables_1, d.before a0 Z = true) (p2 : Int32) (w3 : Addr) (h0 : Heap) (n0 : Nat) (Z0 : n0 ≤ h0.size) (H0 : ((p2 &&& (2147483647 : Int32)) % (7 : Int32)) = (0 : Int32)) (H1 : Sta Z h0 "com/example/transaction_scopes/transactionscopes/Propagation" "REQUIRED" "Lcom/example/transaction_scopes/transactionscopes/Propagation;" (.ref w3)) :
    OMet l Z (⟨"com/example/transaction_scopes/transactionscopes/ScopeSettingsOfPinLaw", "pick", "(I)Lcom/example/transaction_scopes/transactionscopes/Propagation;"⟩ : MethodName) method_2_code 2 (some (.object "com/example/transaction_scopes/transactionscopes/Propagation")) [] ({ frames := 0, cells := 0, slots := 0, locals := 0 } : Room) h0 #[(.int p2)] (OQp (some (.ref w3)) h0 n0) := by
  refine MetFree.of_bodySF (plainFor_of_name pn_com_example_transaction_scopes_transactionscopes_ScopeSettingsOfPinLaw) hisR ?_
  intro p e s m args below meth c s₁ Bd hml0 hP hK
  obtain ⟨rfl, hZ, hh⟩ := hP
  have hx := Bd.exec
  have hby := Bd.bytes
  have hml : c.maxLocals = 2 := hml0
  have hown : s.vm.findClass "com/example/transaction_scopes/transactionscopes/ScopeSettingsOfPinLaw" = some m.cls := findClass_of_methodNamed Bd.named
  have hnm := (name_of_methodNamed Bd.named Bd.method).1
  have X0 : Stand p l e ({ frames := 0, cells := 0, slots := 0, locals := 0 } : Room) s m #[(.int p2)] below meth c s₁ [] 0 0 := Stand.of_body Bd
  have e0 : s₁.heap = h0 := by rw [← hh, Bd.state]; rfl
  have N0 := Fr.nil n0
  have pre0 : ∀ t, Steps p.tables e below (s₁.setTop (mkF m 0 #[.val (.int p2), .unset] [])) t → Steps p.tables e below (s₁.setTop (entryFrame m #[(.int p2)] 2)) t := fun t k => castTop (ef_1_v m p2) k
  obtain ⟨T4, X4, e4, st4⟩ := getS2 X0 hx hZ hown (host := "") (Or.inl (hw _ (List.mem_of_getElem? (i := 5) rfl))) Via.refl e0 H1 (g := (mkF m 12 #[.val (.int p2), .val (.int ((p2 &&& (2147483647 : Int32)) % (7 : Int32)))] [])) rfl (hb hby d1_12)
  obtain ⟨fs, hr, hrun, hended, hW, hsame⟩ := X4.leave (v := some (.ref w3)) (fun h => by rw [Bd.returns] at h; cases h)
  refine ⟨_, _, pre0 _ ?_, hrun, hended, _, _, rfl, ?_, ⟨_, rfl⟩, hW, hsame.mono (by decide) (by decide)⟩
  · show Steps p.tables e below (s₁.setTop (mkF m 0 #[.val (.int p2), .unset] [])) _
    refine XS.iloadN X0.here hx rfl (hb hby d1_0) rfl ?_
    show Steps p.tables e below (s₁.setTop (mkF m 1 #[.val (.int p2), .unset] [(.int p2)])) _
    refine X0.ldcInt hx hown (mvT hZ (hw _ (List.mem_of_getElem? (i := 4) rfl))) (g := (mkF m 1 #[.val (.int p2), .unset] [(.int p2)])) rfl (hb hby d1_1) _ ?_
    show Steps p.tables e below (s₁.setTop (mkF m 3 #[.val (.int p2), .unset] [(.int (2147483647 : Int32)), (.int p2)])) _
    refine XS.iand X0.here hx rfl (hb hby d1_3) rfl ?_
    show Steps p.tables e below (s₁.setTop (mkF m 4 #[.val (.int p2), .unset] [(.int (p2 &&& (2147483647 : Int32)))])) _
    refine XS.bipush X0.here hx rfl (hb hby d1_4) ?_
    show Steps p.tables e below (s₁.setTop (mkF m 6 #[.val (.int p2), .unset] [(.int (7 : Int32)), (.int (p2 &&& (2147483647 : Int32)))])) _
    refine iremM X0 hx rfl (hb hby d1_6) rfl (by decide) ?_
    show Steps p.tables e below (s₁.setTop (mkF m 7 #[.val (.int p2), .unset] [(.int ((p2 &&& (2147483647 : Int32)) % (7 : Int32)))])) _
    refine XS.istoreN X0.here hx rfl (hb hby d1_7) rfl (l' := #[.val (.int p2), .val (.int ((p2 &&& (2147483647 : Int32)) % (7 : Int32)))]) rfl ?_
    show Steps p.tables e below (s₁.setTop (mkF m 8 #[.val (.int p2), .val (.int ((p2 &&& (2147483647 : Int32)) % (7 : Int32)))] [])) _
    refine XS.iloadN X0.here hx rfl (hb hby d1_8) rfl ?_
    show Steps p.tables e below (s₁.setTop (mkF m 9 #[.val (.int p2), .val (.int ((p2 &&& (2147483647 : Int32)) % (7 : Int32)))] [(.int ((p2 &&& (2147483647 : Int32)) % (7 : Int32)))])) _
    refine XS.ifNo X0.here hx rfl (hb hby d1_9) rfl ((if0 _ _).trans (teq H0).2) ?_
    show Steps p.tables e below (s₁.setTop (mkF m 12 #[.val (.int p2), .val (.int ((p2 &&& (2147483647 : Int32)) % (7 : Int32)))] [])) _
    refine st4 _ ?_
    show Steps p.tables e below (T4.setTop (mkF m 15 #[.val (.int p2), .val (.int ((p2 &&& (2147483647 : Int32)) % (7 : Int32)))] [(.ref w3)])) _
    jvm_step X4.here [X4.here.top, hx, (hb hby d1_15), X4.method', Bd.returns, Value.isRef, FieldType.isReference]
    first | (intro acts; rw [hr _ acts rfl rfl rfl]) | rw [hr _ _ rfl rfl rfl]
    exact Steps.refl _
  · show OQp (some (.ref w3)) h0 n0 _ T4.heap _
    rw [e4]
    exact ⟨rfl, N0, rfl⟩
theorem pd_0 : parseMethodDescriptor "(I)Lcom/example/transaction_scopes/transactionscopes/Propagation;" = some ⟨[.int], some (.object "com/example/transaction_scopes/transactionscopes/Propagation")⟩ := by decide +kernel
theorem d2_0 : decode prog_12_method_2_code 0 = .ok (.new 8, 3) := by decide +kernel
theorem d2_3 : decode prog_12_method_2_code 3 = .ok (.dup, 1) := by decide +kernel
theorem d2_4 : decode prog_12_method_2_code 4 = .ok (.aload_n 0, 1) := by decide +kernel
theorem d2_5 : decode prog_12_method_2_code 5 = .ok (.ldc 29, 2) := by decide +kernel
theorem str_in : ∀ w ∈ Bundle.stringAtoms, w ∈ tables_1 := by decide +kernel
theorem d2_7 : decode prog_12_method_2_code 7 = .ok (.invokestatic 30, 3) := by decide +kernel
theorem d3_0 : decode jdk_31_method_11_code 0 = .ok (.aload_n 0, 1) := by decide +kernel
theorem d3_1 : decode jdk_31_method_11_code 1 = .ok (.ifnonnull 12, 3) := by decide +kernel
theorem d3_13 : decode jdk_31_method_11_code 13 = .ok (.aload_n 0, 1) := by decide +kernel
theorem d3_14 : decode jdk_31_method_11_code 14 = .ok (.areturn, 1) := by decide +kernel
theorem pn_java_util_Objects : plainName "java/util/Objects" = true := by first | (simp [plainName, overriddenIn]; done) | decide +kernel
theorem ef_3_vv (m : MethodId) (x0 : Addr) (x1 : Addr) : entryFrame m #[(.ref x0), (.ref x1)] 2 = mkF m 0 #[.val (.ref x0), .val (.ref x1)] [] := by first | (simp [entryFrame, mkF, argsToLocals, Value.category]; done) | rfl
set_option maxRecDepth 65536 in
set_option maxHeartbeats 40000000 in
theorem r3_1 (l : Launch) (Z : State) (a0 : Array Value) (hw : ∀ d ∈ tables_1, d.before a0 Z = true) (a10 : Addr) (a11 : Addr) (h0 : Heap) (n0 : Nat) (Z0 : n0 ≤ h0.size) :
    OMet l Z (⟨"java/util/Objects", "requireNonNull", "(Ljava/lang/Object;Ljava/lang/String;)Ljava/lang/Object;"⟩ : MethodName) jdk_31_method_11_code 2 (some (.object "java/lang/Object")) [] ({ frames := 0, cells := 0, slots := 0, locals := 0 } : Room) h0 #[(.ref a10), (.ref a11)] (OQp (some (.ref a10)) h0 n0) := by
  refine MetFree.of_bodySF (plainFor_of_name pn_java_util_Objects) hisR ?_
  intro p e s m args below meth c s₁ Bd hml0 hP hK
  obtain ⟨rfl, hZ, hh⟩ := hP
  have hx := Bd.exec
  have hby := Bd.bytes
  have hml : c.maxLocals = 2 := hml0
  have hown : s.vm.findClass "java/util/Objects" = some m.cls := findClass_of_methodNamed Bd.named
  have hnm := (name_of_methodNamed Bd.named Bd.method).1
  have X0 : Stand p l e ({ frames := 0, cells := 0, slots := 0, locals := 0 } : Room) s m #[(.ref a10), (.ref a11)] below meth c s₁ [] 0 0 := Stand.of_body Bd
  have e0 : s₁.heap = h0 := by rw [← hh, Bd.state]; rfl
  have N0 := Fr.nil n0
  have pre0 : ∀ t, Steps p.tables e below (s₁.setTop (mkF m 0 #[.val (.ref a10), .val (.ref a11)] [])) t → Steps p.tables e below (s₁.setTop (entryFrame m #[(.ref a10), (.ref a11)] 2)) t := fun t k => castTop (ef_3_vv m a10 a11) k

  obtain ⟨fs, hr, hrun, hended, hW, hsame⟩ := X0.leave (v := some (.ref a10)) (fun h => by rw [Bd.returns] at h; cases h)
  refine ⟨_, _, pre0 _ ?_, hrun, hended, _, _, rfl, ?_, ⟨_, rfl⟩, hW, hsame.mono (by decide) (by decide)⟩
  · show Steps p.tables e below (s₁.setTop (mkF m 0 #[.val (.ref a10), .val (.ref a11)] [])) _
    refine XS.aloadN X0.here hx rfl (hb hby d3_0) rfl rfl ?_
    show Steps p.tables e below (s₁.setTop (mkF m 1 #[.val (.ref a10), .val (.ref a11)] [(.ref a10)])) _
    refine XS.ifnonnullYes X0.here hx rfl (pc0 := 1) (pc' := 13) rfl (hb hby d3_1) rfl (by decide) (by decide) ?_
    show Steps p.tables e below (s₁.setTop (mkF m 13 #[.val (.ref a10), .val (.ref a11)] [])) _
    refine XS.aloadN X0.here hx rfl (hb hby d3_13) rfl rfl ?_
    show Steps p.tables e below (s₁.setTop (mkF m 14 #[.val (.ref a10), .val (.ref a11)] [(.ref a10)])) _
    jvm_step X0.here [X0.here.top, hx, (hb hby d3_14), X0.method', Bd.returns, Value.isRef, FieldType.isReference]
    first | (intro acts; rw [hr _ acts rfl rfl rfl]) | rw [hr _ _ rfl rfl rfl]
    exact Steps.refl _
  · show OQp (some (.ref a10)) h0 n0 _ s₁.heap _
    rw [e0]
    exact ⟨rfl, N0, rfl⟩
theorem pd_1 : parseMethodDescriptor "(Ljava/lang/Object;Ljava/lang/String;)Ljava/lang/Object;" = some ⟨[(.object "java/lang/Object"), (.object "java/lang/String")], some (.object "java/lang/Object")⟩ := by decide +kernel
theorem d2_10 : decode prog_12_method_2_code 10 = .ok (.checkcast 36, 3) := by decide +kernel
theorem d2_13 : decode prog_12_method_2_code 13 = .ok (.getstatic 38, 3) := by decide +kernel
theorem d2_16 : decode prog_12_method_2_code 16 = .ok (.iconst 0, 1) := by decide +kernel
theorem d2_17 : decode prog_12_method_2_code 17 = .ok (.aconst_null, 1) := by decide +kernel
theorem d2_18 : decode prog_12_method_2_code 18 = .ok (.invokestatic 43, 3) := by decide +kernel
theorem d4_0 : decode jdk_72_method_26_code 0 = .ok (.getstatic 81, 3) := by decide +kernel
theorem d4_3 : decode jdk_72_method_26_code 3 = .ok (.areturn, 1) := by decide +kernel
theorem pn_java_util_Map : plainName "java/util/Map" = true := by first | (simp [plainName, overriddenIn]; done) | decide +kernel
theorem ef_4_ (m : MethodId)  : entryFrame m #[] 0 = mkF m 0 #[] [] := by first | (simp [entryFrame, mkF, argsToLocals, Value.category]; done) | rfl
set_option maxRecDepth 65536 in
set_option maxHeartbeats 40000000 in
theorem r4_1 (l : Launch) (Z : State) (a0 : Array Value) (hw : ∀ d ∈ tables_1, d.before a0 Z = true) (w18 : Addr) (h0 : Heap) (n0 : Nat) (Z0 : n0 ≤ h0.size) (H0 : Sta Z h0 "java/util/ImmutableCollections" "EMPTY_MAP" "Ljava/util/ImmutableCollections$MapN;" (.ref w18)) :
    OMet l Z (⟨"java/util/Map", "of", "()Ljava/util/Map;"⟩ : MethodName) jdk_72_method_26_code 0 (some (.object "java/util/Map")) [] ({ frames := 0, cells := 0, slots := 0, locals := 0 } : Room) h0 #[] (OQp (some (.ref w18)) h0 n0) := by
  refine MetFree.of_bodySF (plainFor_of_name pn_java_util_Map) hisR ?_
  intro p e s m args below meth c s₁ Bd hml0 hP hK
  obtain ⟨rfl, hZ, hh⟩ := hP
  have hx := Bd.exec
  have hby := Bd.bytes
  have hml : c.maxLocals = 0 := hml0
  have hown : s.vm.findClass "java/util/Map" = some m.cls := findClass_of_methodNamed Bd.named
  have hnm := (name_of_methodNamed Bd.named Bd.method).1
  have X0 : Stand p l e ({ frames := 0, cells := 0, slots := 0, locals := 0 } : Room) s m #[] below meth c s₁ [] 0 0 := Stand.of_body Bd
  have e0 : s₁.heap = h0 := by rw [← hh, Bd.state]; rfl
  have N0 := Fr.nil n0
  have pre0 : ∀ t, Steps p.tables e below (s₁.setTop (mkF m 0 #[] [])) t → Steps p.tables e below (s₁.setTop (entryFrame m #[] 0)) t := fun t k => castTop (ef_4_ m ) k
  obtain ⟨T19, X19, e19, st19⟩ := getS2 X0 hx hZ hown (host := "") (Or.inl (hw _ (List.mem_of_getElem? (i := 35) rfl))) Via.refl e0 H0 (g := (mkF m 0 #[] [])) rfl (hb hby d4_0)
  obtain ⟨fs, hr, hrun, hended, hW, hsame⟩ := X19.leave (v := some (.ref w18)) (fun h => by rw [Bd.returns] at h; cases h)
  refine ⟨_, _, pre0 _ ?_, hrun, hended, _, _, rfl, ?_, ⟨_, rfl⟩, hW, hsame.mono (by decide) (by decide)⟩
  · show Steps p.tables e below (s₁.setTop (mkF m 0 #[] [])) _
    refine st19 _ ?_
    show Steps p.tables e below (T19.setTop (mkF m 3 #[] [(.ref w18)])) _
    jvm_step X19.here [X19.here.top, hx, (hb hby d4_3), X19.method', Bd.returns, Value.isRef, FieldType.isReference]
    first | (intro acts; rw [hr _ acts rfl rfl rfl]) | rw [hr _ _ rfl rfl rfl]
    exact Steps.refl _
  · show OQp (some (.ref w18)) h0 n0 _ T19.heap _
    rw [e19]
    exact ⟨rfl, N0, rfl⟩
theorem pd_2 : parseMethodDescriptor "()Ljava/util/Map;" = some ⟨[], some (.object "java/util/Map")⟩ := by decide +kernel
theorem d2_21 : decode prog_12_method_2_code 21 = .ok (.invokespecial 49, 3) := by decide +kernel
theorem d5_0 : decode prog_12_method_1_code 0 = .ok (.aload_n 0, 1) := by decide +kernel
theorem d5_1 : decode prog_12_method_1_code 1 = .ok (.invokespecial 1, 3) := by decide +kernel
theorem d5_4 : decode prog_12_method_1_code 4 = .ok (.aload_n 0, 1) := by decide +kernel
theorem d5_5 : decode prog_12_method_1_code 5 = .ok (.aload_n 1, 1) := by decide +kernel
theorem d5_6 : decode prog_12_method_1_code 6 = .ok (.putfield 7, 3) := by decide +kernel
theorem d5_9 : decode prog_12_method_1_code 9 = .ok (.aload_n 0, 1) := by decide +kernel
theorem d5_10 : decode prog_12_method_1_code 10 = .ok (.aload_n 2, 1) := by decide +kernel
theorem d5_11 : decode prog_12_method_1_code 11 = .ok (.putfield 13, 3) := by decide +kernel
theorem d5_14 : decode prog_12_method_1_code 14 = .ok (.aload_n 0, 1) := by decide +kernel
theorem d5_15 : decode prog_12_method_1_code 15 = .ok (.iload_n 3, 1) := by decide +kernel
theorem d5_16 : decode prog_12_method_1_code 16 = .ok (.putfield 17, 3) := by decide +kernel
theorem d5_19 : decode prog_12_method_1_code 19 = .ok (.aload_n 0, 1) := by decide +kernel
theorem d5_20 : decode prog_12_method_1_code 20 = .ok (.aload 4, 2) := by decide +kernel
theorem d5_22 : decode prog_12_method_1_code 22 = .ok (.putfield 21, 3) := by decide +kernel
theorem d5_25 : decode prog_12_method_1_code 25 = .ok (.aload_n 0, 1) := by decide +kernel
theorem d5_26 : decode prog_12_method_1_code 26 = .ok (.aload 5, 2) := by decide +kernel
theorem d5_28 : decode prog_12_method_1_code 28 = .ok (.putfield 25, 3) := by decide +kernel
theorem d5_31 : decode prog_12_method_1_code 31 = .ok (.return_, 1) := by decide +kernel
theorem pn_com_example_transaction_scopes_transactionscopes_ScopeSettings : plainName "com/example/transaction_scopes/transactionscopes/ScopeSettings" = true := by first | (simp [plainName, overriddenIn]; done) | decide +kernel
theorem ef_5_vvvvnv (m : MethodId) (x0 : Addr) (x1 : Addr) (x2 : Addr) (x3 : Int32) (x5 : Addr) : entryFrame m #[(.ref x0), (.ref x1), (.ref x2), (.int x3), .null, (.ref x5)] 6 = mkF m 0 #[.val (.ref x0), .val (.ref x1), .val (.ref x2), .val (.int x3), .val .null, .val (.ref x5)] [] := by first | (simp [entryFrame, mkF, argsToLocals, Value.category]; done) | rfl
def Qr5_1 (Z : State) (a23 : Addr) (a24 : Addr) (a25 : Addr) (p26 : Int32) (a27 : Addr) (w34 : Int32) (h0 : Heap) (n0 : Nat) (v : Option Value) (h : Heap) (L : List Loc) : Prop := Fr n0 L ∧ v = none ∧ KSx h0 h [(a23, Jvm.RoadKit.slotOf Z "com/example/transaction_scopes/transactionscopes/ScopeSettings" "propagation" "Lcom/example/transaction_scopes/transactionscopes/Propagation;"), (a23, Jvm.RoadKit.slotOf Z "com/example/transaction_scopes/transactionscopes/ScopeSettings" "isolation" "Lcom/example/transaction_scopes/transactionscopes/Isolation;"), (a23, Jvm.RoadKit.slotOf Z "com/example/transaction_scopes/transactionscopes/ScopeSettings" "readOnly" "Z"), (a23, Jvm.RoadKit.slotOf Z "com/example/transaction_scopes/transactionscopes/ScopeSettings" "timeout" "Ljava/time/Duration;"), (a23, Jvm.RoadKit.slotOf Z "com/example/transaction_scopes/transactionscopes/ScopeSettings" "rules" "Ljava/util/Map;")] ∧ Fld Z h a23 "com/example/transaction_scopes/transactionscopes/ScopeSettings" "propagation" "Lcom/example/transaction_scopes/transactionscopes/Propagation;" (.ref a24) ∧ Fld Z h a23 "com/example/transaction_scopes/transactionscopes/ScopeSettings" "isolation" "Lcom/example/transaction_scopes/transactionscopes/Isolation;" (.ref a25) ∧ Fld Z h a23 "com/example/transaction_scopes/transactionscopes/ScopeSettings" "readOnly" "Z" (.int p26) ∧ Fld Z h a23 "com/example/transaction_scopes/transactionscopes/ScopeSettings" "timeout" "Ljava/time/Duration;" .null ∧ Fld Z h a23 "com/example/transaction_scopes/transactionscopes/ScopeSettings" "rules" "Ljava/util/Map;" (.ref a27)
set_option maxRecDepth 65536 in
set_option maxHeartbeats 40000000 in
theorem r5_1 (l : Launch) (Z : State) (a0 : Array Value) (hw : ∀ d ∈ tables_1, d.before a0 Z = true) (a23 : Addr) (a24 : Addr) (a25 : Addr) (p26 : Int32) (a27 : Addr) (w34 : Int32) (h0 : Heap) (n0 : Nat) (Z0 : n0 ≤ h0.size) (H0 : Exa Z h0 a23 "com/example/transaction_scopes/transactionscopes/ScopeSettings") (H1 : Fld Z h0 a23 "com/example/transaction_scopes/transactionscopes/ScopeSettings" "propagation" "Lcom/example/transaction_scopes/transactionscopes/Propagation;" .null) (H2 : n0 ≤ a23) (H3 : Fld Z h0 a23 "com/example/transaction_scopes/transactionscopes/ScopeSettings" "isolation" "Lcom/example/transaction_scopes/transactionscopes/Isolation;" .null) (H4 : Fld Z h0 a23 "com/example/transaction_scopes/transactionscopes/ScopeSettings" "readOnly" "Z" (.int w34)) (H5 : p26 = (0 : Int32)) (H6 : Fld Z h0 a23 "com/example/transaction_scopes/transactionscopes/ScopeSettings" "timeout" "Ljava/time/Duration;" .null) (H7 : Fld Z h0 a23 "com/example/transaction_scopes/transactionscopes/ScopeSettings" "rules" "Ljava/util/Map;" .null) :
    OMet l Z (⟨"com/example/transaction_scopes/transactionscopes/ScopeSettings", "<init>", "(Lcom/example/transaction_scopes/transactionscopes/Propagation;Lcom/example/transaction_scopes/transactionscopes/Isolation;ZLjava/time/Duration;Ljava/util/Map;)V"⟩ : MethodName) prog_12_method_1_code 6 none [] ({ frames := 1, cells := 0, slots := 0, locals := 12 } : Room) h0 #[(.ref a23), (.ref a24), (.ref a25), (.int p26), .null, (.ref a27)] (Qr5_1 Z a23 a24 a25 p26 a27 w34 h0 n0) := by
  refine MetFree.of_bodySF (plainFor_of_name pn_com_example_transaction_scopes_transactionscopes_ScopeSettings) hisR ?_
  intro p e s m args below meth c s₁ Bd hml0 hP hK
  obtain ⟨rfl, hZ, hh⟩ := hP
  have hx := Bd.exec
  have hby := Bd.bytes
  have hml : c.maxLocals = 6 := hml0
  have hown : s.vm.findClass "com/example/transaction_scopes/transactionscopes/ScopeSettings" = some m.cls := findClass_of_methodNamed Bd.named
  have hnm := (name_of_methodNamed Bd.named Bd.method).1
  have X0 : Stand p l e ({ frames := 1, cells := 0, slots := 0, locals := 12 } : Room) s m #[(.ref a23), (.ref a24), (.ref a25), (.int p26), .null, (.ref a27)] below meth c s₁ [] 0 0 := Stand.of_body Bd
  have e0 : s₁.heap = h0 := by rw [← hh, Bd.state]; rfl
  have N0 := Fr.nil n0
  have pre0 : ∀ t, Steps p.tables e below (s₁.setTop (mkF m 0 #[.val (.ref a23), .val (.ref a24), .val (.ref a25), .val (.int p26), .val .null, .val (.ref a27)] [])) t → Steps p.tables e below (s₁.setTop (entryFrame m #[(.ref a23), (.ref a24), (.ref a25), (.int p26), .null, (.ref a27)] 6)) t := fun t k => castTop (ef_5_vvvvnv m a23 a24 a25 p26 a27) k
  obtain ⟨T28, X28, e28, st28⟩ := initO X0 hx hZ hown (hw _ (List.mem_of_getElem? (i := 40) rfl)) (hw _ (List.mem_of_getElem? (i := 41) rfl)) (hw _ (List.mem_of_getElem? (i := 42) rfl)) e0 (g := (mkF m 1 #[.val (.ref a23), .val (.ref a24), .val (.ref a25), .val (.int p26), .val .null, .val (.ref a27)] [(.ref a23)])) rfl (by rw [hml]; rfl) rfl (hb hby d5_1) (by decide) (W := 0) (by show 2 * 0 + _ ≤ _; exact Nat.le_of_eq rfl) (by decide)
  obtain ⟨T29, h29, X29, e29, W29, st29⟩ := putF X28 hx hZ hown (host := "") (Or.inl (hw _ (List.mem_of_getElem? (i := 43) rfl))) Via.refl e28 H1 H0 (Or.inr ⟨(hw _ (List.mem_of_getElem? (i := 44) rfl)), rfl, hnm⟩) (hw _ (List.mem_of_getElem? (i := 13) rfl)) (ty := (.object "com/example/transaction_scopes/transactionscopes/Propagation")) (by decide) rfl rfl (g := (mkF m 6 #[.val (.ref a23), .val (.ref a24), .val (.ref a25), .val (.int p26), .val .null, .val (.ref a27)] [(.ref a24), (.ref a23)])) rfl rfl (hb hby d5_6)
  have Fw29 := Fld.same W29 H1
  have KC29 := KSx.wr (KSx.refl h0 [(a23, Jvm.RoadKit.slotOf Z "com/example/transaction_scopes/transactionscopes/ScopeSettings" "propagation" "Lcom/example/transaction_scopes/transactionscopes/Propagation;"), (a23, Jvm.RoadKit.slotOf Z "com/example/transaction_scopes/transactionscopes/ScopeSettings" "isolation" "Lcom/example/transaction_scopes/transactionscopes/Isolation;"), (a23, Jvm.RoadKit.slotOf Z "com/example/transaction_scopes/transactionscopes/ScopeSettings" "readOnly" "Z"), (a23, Jvm.RoadKit.slotOf Z "com/example/transaction_scopes/transactionscopes/ScopeSettings" "timeout" "Ljava/time/Duration;"), (a23, Jvm.RoadKit.slotOf Z "com/example/transaction_scopes/transactionscopes/ScopeSettings" "rules" "Ljava/util/Map;")]) W29 (Or.inl (List.mem_of_getElem? (i := 0) rfl))
  have N29 := Fr.snoc X29 N0 H2
  have f30 := (H0.wr W29)
  have f31 := (H3.other W29 (Or.inr (slot_ne (Or.inr (hw _ (List.mem_of_getElem? (i := 46) rfl))) (Or.inr (hw _ (List.mem_of_getElem? (i := 44) rfl))) (by decide) (t := (.object "com/example/transaction_scopes/transactionscopes/Isolation")) (t' := (.object "com/example/transaction_scopes/transactionscopes/Propagation")) (by decide) (by decide))))
  obtain ⟨T32, h32, X32, e32, W32, st32⟩ := putF X29 hx hZ hown (host := "") (Or.inl (hw _ (List.mem_of_getElem? (i := 45) rfl))) Via.refl e29 f31 f30 (Or.inr ⟨(hw _ (List.mem_of_getElem? (i := 46) rfl)), rfl, hnm⟩) (hw _ (List.mem_of_getElem? (i := 13) rfl)) (ty := (.object "com/example/transaction_scopes/transactionscopes/Isolation")) (by decide) rfl rfl (g := (mkF m 11 #[.val (.ref a23), .val (.ref a24), .val (.ref a25), .val (.int p26), .val .null, .val (.ref a27)] [(.ref a25), (.ref a23)])) rfl rfl (hb hby d5_11)
  have Fw32 := Fld.same W32 f31
  have KC32 := KSx.wr KC29 W32 (Or.inl (List.mem_of_getElem? (i := 1) rfl))
  have N32 := Fr.snoc X32 N29 H2
  have f33 := (f30.wr W32)
  have f35 := ((H4.other W29 (Or.inr (slot_ne (Or.inr (hw _ (List.mem_of_getElem? (i := 48) rfl))) (Or.inr (hw _ (List.mem_of_getElem? (i := 44) rfl))) (by decide) (t := .boolean) (t' := (.object "com/example/transaction_scopes/transactionscopes/Propagation")) (by decide) (by decide)))).other W32 (Or.inr (slot_ne (Or.inr (hw _ (List.mem_of_getElem? (i := 48) rfl))) (Or.inr (hw _ (List.mem_of_getElem? (i := 46) rfl))) (by decide) (t := .boolean) (t' := (.object "com/example/transaction_scopes/transactionscopes/Isolation")) (by decide) (by decide))))
  obtain ⟨T36, h36, X36, e36, W36, st36⟩ := putF X32 hx hZ hown (host := "") (Or.inl (hw _ (List.mem_of_getElem? (i := 47) rfl))) Via.refl e32 f35 f33 (Or.inr ⟨(hw _ (List.mem_of_getElem? (i := 48) rfl)), rfl, hnm⟩) (hw _ (List.mem_of_getElem? (i := 13) rfl)) (ty := .boolean) (by decide) (by rw [H5]; rfl) (by rw [H5]; rfl) (g := (mkF m 16 #[.val (.ref a23), .val (.ref a24), .val (.ref a25), .val (.int p26), .val .null, .val (.ref a27)] [(.int p26), (.ref a23)])) rfl rfl (hb hby d5_16)
  have Fw36 := Fld.same W36 f35
  have KC36 := KSx.wr KC32 W36 (Or.inl (List.mem_of_getElem? (i := 2) rfl))
  have N36 := Fr.snoc X36 N32 H2
  have f37 := (f33.wr W36)
  have f38 := (((H6.other W29 (Or.inr (slot_ne (Or.inr (hw _ (List.mem_of_getElem? (i := 50) rfl))) (Or.inr (hw _ (List.mem_of_getElem? (i := 44) rfl))) (by decide) (t := (.object "java/time/Duration")) (t' := (.object "com/example/transaction_scopes/transactionscopes/Propagation")) (by decide) (by decide)))).other W32 (Or.inr (slot_ne (Or.inr (hw _ (List.mem_of_getElem? (i := 50) rfl))) (Or.inr (hw _ (List.mem_of_getElem? (i := 46) rfl))) (by decide) (t := (.object "java/time/Duration")) (t' := (.object "com/example/transaction_scopes/transactionscopes/Isolation")) (by decide) (by decide)))).other W36 (Or.inr (slot_ne (Or.inr (hw _ (List.mem_of_getElem? (i := 50) rfl))) (Or.inr (hw _ (List.mem_of_getElem? (i := 48) rfl))) (by decide) (t := (.object "java/time/Duration")) (t' := .boolean) (by decide) (by decide))))
  obtain ⟨T39, h39, X39, e39, W39, st39⟩ := putF X36 hx hZ hown (host := "") (Or.inl (hw _ (List.mem_of_getElem? (i := 49) rfl))) Via.refl e36 f38 f37 (Or.inr ⟨(hw _ (List.mem_of_getElem? (i := 50) rfl)), rfl, hnm⟩) (hw _ (List.mem_of_getElem? (i := 13) rfl)) (ty := (.object "java/time/Duration")) (by decide) rfl rfl (g := (mkF m 22 #[.val (.ref a23), .val (.ref a24), .val (.ref a25), .val (.int p26), .val .null, .val (.ref a27)] [.null, (.ref a23)])) rfl rfl (hb hby d5_22)
  have Fw39 := Fld.same W39 f38
  have KC39 := KSx.wr KC36 W39 (Or.inl (List.mem_of_getElem? (i := 3) rfl))
  have N39 := Fr.snoc X39 N36 H2
  have f40 := (f37.wr W39)
  have f41 := ((((H7.other W29 (Or.inr (slot_ne (Or.inr (hw _ (List.mem_of_getElem? (i := 52) rfl))) (Or.inr (hw _ (List.mem_of_getElem? (i := 44) rfl))) (by decide) (t := (.object "java/util/Map")) (t' := (.object "com/example/transaction_scopes/transactionscopes/Propagation")) (by decide) (by decide)))).other W32 (Or.inr (slot_ne (Or.inr (hw _ (List.mem_of_getElem? (i := 52) rfl))) (Or.inr (hw _ (List.mem_of_getElem? (i := 46) rfl))) (by decide) (t := (.object "java/util/Map")) (t' := (.object "com/example/transaction_scopes/transactionscopes/Isolation")) (by decide) (by decide)))).other W36 (Or.inr (slot_ne (Or.inr (hw _ (List.mem_of_getElem? (i := 52) rfl))) (Or.inr (hw _ (List.mem_of_getElem? (i := 48) rfl))) (by decide) (t := (.object "java/util/Map")) (t' := .boolean) (by decide) (by decide)))).other W39 (Or.inr (slot_ne (Or.inr (hw _ (List.mem_of_getElem? (i := 52) rfl))) (Or.inr (hw _ (List.mem_of_getElem? (i := 50) rfl))) (by decide) (t := (.object "java/util/Map")) (t' := (.object "java/time/Duration")) (by decide) (by decide))))
  obtain ⟨T42, h42, X42, e42, W42, st42⟩ := putF X39 hx hZ hown (host := "") (Or.inl (hw _ (List.mem_of_getElem? (i := 51) rfl))) Via.refl e39 f41 f40 (Or.inr ⟨(hw _ (List.mem_of_getElem? (i := 52) rfl)), rfl, hnm⟩) (hw _ (List.mem_of_getElem? (i := 13) rfl)) (ty := (.object "java/util/Map")) (by decide) rfl rfl (g := (mkF m 28 #[.val (.ref a23), .val (.ref a24), .val (.ref a25), .val (.int p26), .val .null, .val (.ref a27)] [(.ref a27), (.ref a23)])) rfl rfl (hb hby d5_28)
  have Fw42 := Fld.same W42 f41
  have KC42 := KSx.wr KC39 W42 (Or.inl (List.mem_of_getElem? (i := 4) rfl))
  have N42 := Fr.snoc X42 N39 H2
  have f43 := ((((Fw29.other W32 (Or.inr (slot_ne (Or.inr (hw _ (List.mem_of_getElem? (i := 44) rfl))) (Or.inr (hw _ (List.mem_of_getElem? (i := 46) rfl))) (by decide) (t := (.object "com/example/transaction_scopes/transactionscopes/Propagation")) (t' := (.object "com/example/transaction_scopes/transactionscopes/Isolation")) (by decide) (by decide)))).other W36 (Or.inr (slot_ne (Or.inr (hw _ (List.mem_of_getElem? (i := 44) rfl))) (Or.inr (hw _ (List.mem_of_getElem? (i := 48) rfl))) (by decide) (t := (.object "com/example/transaction_scopes/transactionscopes/Propagation")) (t' := .boolean) (by decide) (by decide)))).other W39 (Or.inr (slot_ne (Or.inr (hw _ (List.mem_of_getElem? (i := 44) rfl))) (Or.inr (hw _ (List.mem_of_getElem? (i := 50) rfl))) (by decide) (t := (.object "com/example/transaction_scopes/transactionscopes/Propagation")) (t' := (.object "java/time/Duration")) (by decide) (by decide)))).other W42 (Or.inr (slot_ne (Or.inr (hw _ (List.mem_of_getElem? (i := 44) rfl))) (Or.inr (hw _ (List.mem_of_getElem? (i := 52) rfl))) (by decide) (t := (.object "com/example/transaction_scopes/transactionscopes/Propagation")) (t' := (.object "java/util/Map")) (by decide) (by decide))))
  have f44 := (((Fw32.other W36 (Or.inr (slot_ne (Or.inr (hw _ (List.mem_of_getElem? (i := 46) rfl))) (Or.inr (hw _ (List.mem_of_getElem? (i := 48) rfl))) (by decide) (t := (.object "com/example/transaction_scopes/transactionscopes/Isolation")) (t' := .boolean) (by decide) (by decide)))).other W39 (Or.inr (slot_ne (Or.inr (hw _ (List.mem_of_getElem? (i := 46) rfl))) (Or.inr (hw _ (List.mem_of_getElem? (i := 50) rfl))) (by decide) (t := (.object "com/example/transaction_scopes/transactionscopes/Isolation")) (t' := (.object "java/time/Duration")) (by decide) (by decide)))).other W42 (Or.inr (slot_ne (Or.inr (hw _ (List.mem_of_getElem? (i := 46) rfl))) (Or.inr (hw _ (List.mem_of_getElem? (i := 52) rfl))) (by decide) (t := (.object "com/example/transaction_scopes/transactionscopes/Isolation")) (t' := (.object "java/util/Map")) (by decide) (by decide))))
  have f45 := ((Fw36.other W39 (Or.inr (slot_ne (Or.inr (hw _ (List.mem_of_getElem? (i := 48) rfl))) (Or.inr (hw _ (List.mem_of_getElem? (i := 50) rfl))) (by decide) (t := .boolean) (t' := (.object "java/time/Duration")) (by decide) (by decide)))).other W42 (Or.inr (slot_ne (Or.inr (hw _ (List.mem_of_getElem? (i := 48) rfl))) (Or.inr (hw _ (List.mem_of_getElem? (i := 52) rfl))) (by decide) (t := .boolean) (t' := (.object "java/util/Map")) (by decide) (by decide))))
  have f46 := (Fw39.other W42 (Or.inr (slot_ne (Or.inr (hw _ (List.mem_of_getElem? (i := 50) rfl))) (Or.inr (hw _ (List.mem_of_getElem? (i := 52) rfl))) (by decide) (t := (.object "java/time/Duration")) (t' := (.object "java/util/Map")) (by decide) (by decide))))
  obtain ⟨fs, hr, hrun, hended, hW, hsame⟩ := X42.leave (v := none) (fun _ => rfl)
  refine ⟨_, _, pre0 _ ?_, hrun, hended, _, _, rfl, ?_, ⟨_, rfl⟩, hW, hsame.mono (by decide) (by decide)⟩
  · show Steps p.tables e below (s₁.setTop (mkF m 0 #[.val (.ref a23), .val (.ref a24), .val (.ref a25), .val (.int p26), .val .null, .val (.ref a27)] [])) _
    refine XS.aloadN X0.here hx rfl (hb hby d5_0) rfl rfl ?_
    show Steps p.tables e below (s₁.setTop (mkF m 1 #[.val (.ref a23), .val (.ref a24), .val (.ref a25), .val (.int p26), .val .null, .val (.ref a27)] [(.ref a23)])) _
    refine st28 _ ?_
    show Steps p.tables e below (T28.setTop (mkF m 4 #[.val (.ref a23), .val (.ref a24), .val (.ref a25), .val (.int p26), .val .null, .val (.ref a27)] [])) _
    refine XS.aloadN X28.here hx rfl (hb hby d5_4) rfl rfl ?_
    show Steps p.tables e below (T28.setTop (mkF m 5 #[.val (.ref a23), .val (.ref a24), .val (.ref a25), .val (.int p26), .val .null, .val (.ref a27)] [(.ref a23)])) _
    refine XS.aloadN X28.here hx rfl (hb hby d5_5) rfl rfl ?_
    show Steps p.tables e below (T28.setTop (mkF m 6 #[.val (.ref a23), .val (.ref a24), .val (.ref a25), .val (.int p26), .val .null, .val (.ref a27)] [(.ref a24), (.ref a23)])) _
    refine st29 _ ?_
    show Steps p.tables e below (T29.setTop (mkF m 9 #[.val (.ref a23), .val (.ref a24), .val (.ref a25), .val (.int p26), .val .null, .val (.ref a27)] [])) _
    refine XS.aloadN X29.here hx rfl (hb hby d5_9) rfl rfl ?_
    show Steps p.tables e below (T29.setTop (mkF m 10 #[.val (.ref a23), .val (.ref a24), .val (.ref a25), .val (.int p26), .val .null, .val (.ref a27)] [(.ref a23)])) _
    refine XS.aloadN X29.here hx rfl (hb hby d5_10) rfl rfl ?_
    show Steps p.tables e below (T29.setTop (mkF m 11 #[.val (.ref a23), .val (.ref a24), .val (.ref a25), .val (.int p26), .val .null, .val (.ref a27)] [(.ref a25), (.ref a23)])) _
    refine st32 _ ?_
    show Steps p.tables e below (T32.setTop (mkF m 14 #[.val (.ref a23), .val (.ref a24), .val (.ref a25), .val (.int p26), .val .null, .val (.ref a27)] [])) _
    refine XS.aloadN X32.here hx rfl (hb hby d5_14) rfl rfl ?_
    show Steps p.tables e below (T32.setTop (mkF m 15 #[.val (.ref a23), .val (.ref a24), .val (.ref a25), .val (.int p26), .val .null, .val (.ref a27)] [(.ref a23)])) _
    refine XS.iloadN X32.here hx rfl (hb hby d5_15) rfl ?_
    show Steps p.tables e below (T32.setTop (mkF m 16 #[.val (.ref a23), .val (.ref a24), .val (.ref a25), .val (.int p26), .val .null, .val (.ref a27)] [(.int p26), (.ref a23)])) _
    refine st36 _ ?_
    show Steps p.tables e below (T36.setTop (mkF m 19 #[.val (.ref a23), .val (.ref a24), .val (.ref a25), .val (.int p26), .val .null, .val (.ref a27)] [])) _
    refine XS.aloadN X36.here hx rfl (hb hby d5_19) rfl rfl ?_
    show Steps p.tables e below (T36.setTop (mkF m 20 #[.val (.ref a23), .val (.ref a24), .val (.ref a25), .val (.int p26), .val .null, .val (.ref a27)] [(.ref a23)])) _
    refine XS.aload X36.here hx rfl (hb hby d5_20) rfl rfl ?_
    show Steps p.tables e below (T36.setTop (mkF m 22 #[.val (.ref a23), .val (.ref a24), .val (.ref a25), .val (.int p26), .val .null, .val (.ref a27)] [.null, (.ref a23)])) _
    refine st39 _ ?_
    show Steps p.tables e below (T39.setTop (mkF m 25 #[.val (.ref a23), .val (.ref a24), .val (.ref a25), .val (.int p26), .val .null, .val (.ref a27)] [])) _
    refine XS.aloadN X39.here hx rfl (hb hby d5_25) rfl rfl ?_
    show Steps p.tables e below (T39.setTop (mkF m 26 #[.val (.ref a23), .val (.ref a24), .val (.ref a25), .val (.int p26), .val .null, .val (.ref a27)] [(.ref a23)])) _
    refine XS.aload X39.here hx rfl (hb hby d5_26) rfl rfl ?_
    show Steps p.tables e below (T39.setTop (mkF m 28 #[.val (.ref a23), .val (.ref a24), .val (.ref a25), .val (.int p26), .val .null, .val (.ref a27)] [(.ref a27), (.ref a23)])) _
    refine st42 _ ?_
    show Steps p.tables e below (T42.setTop (mkF m 31 #[.val (.ref a23), .val (.ref a24), .val (.ref a25), .val (.int p26), .val .null, .val (.ref a27)] [])) _
    exact X42.returnOut hx Bd.returns (hb hby d5_31) hr
  · show Qr5_1 Z a23 a24 a25 p26 a27 w34 h0 n0 _ T42.heap _
    rw [e42]
    exact ⟨N42, rfl, KC42, f43, f44, f45, f46, Fw42⟩
theorem pd_3 : parseMethodDescriptor "(Lcom/example/transaction_scopes/transactionscopes/Propagation;Lcom/example/transaction_scopes/transactionscopes/Isolation;ZLjava/time/Duration;Ljava/util/Map;)V" = some ⟨[(.object "com/example/transaction_scopes/transactionscopes/Propagation"), (.object "com/example/transaction_scopes/transactionscopes/Isolation"), .boolean, (.object "java/time/Duration"), (.object "java/util/Map")], none⟩ := by decide +kernel
theorem d2_24 : decode prog_12_method_2_code 24 = .ok (.areturn, 1) := by decide +kernel
theorem ef_2_v (m : MethodId) (x0 : Addr) : entryFrame m #[(.ref x0)] 1 = mkF m 0 #[.val (.ref x0)] [] := by first | (simp [entryFrame, mkF, argsToLocals, Value.category]; done) | rfl
def Qr2_1 (Z : State) (a7 : Addr) (w15 : Addr) (w21 : Addr) (h0 : Heap) (n0 : Nat) (v : Option Value) (h : Heap) (L : List Loc) : Prop := Fr n0 L ∧ ∃ b8 : Addr, v = some (.ref b8) ∧ h0.size ≤ b8 ∧ KSx h0 h [] ∧ Exa Z h b8 "com/example/transaction_scopes/transactionscopes/ScopeSettings" ∧ Fld Z h b8 "com/example/transaction_scopes/transactionscopes/ScopeSettings" "propagation" "Lcom/example/transaction_scopes/transactionscopes/Propagation;" (.ref a7) ∧ Fld Z h b8 "com/example/transaction_scopes/transactionscopes/ScopeSettings" "isolation" "Lcom/example/transaction_scopes/transactionscopes/Isolation;" (.ref w15) ∧ Fld Z h b8 "com/example/transaction_scopes/transactionscopes/ScopeSettings" "readOnly" "Z" (.int (0 : Int32)) ∧ Fld Z h b8 "com/example/transaction_scopes/transactionscopes/ScopeSettings" "timeout" "Ljava/time/Duration;" .null ∧ Fld Z h b8 "com/example/transaction_scopes/transactionscopes/ScopeSettings" "rules" "Ljava/util/Map;" (.ref w21)
set_option maxRecDepth 65536 in
set_option maxHeartbeats 40000000 in
theorem r2_1 (l : Launch) (Z : State) (a0 : Array Value) (hw : ∀ d ∈ tables_1, d.before a0 Z = true) (a7 : Addr) (w15 : Addr) (w21 : Addr) (h0 : Heap) (n0 : Nat) (Z0 : n0 ≤ h0.size) (H0 : Exa Z h0 a7 "com/example/transaction_scopes/transactionscopes/Propagation") (H1 : Sta Z h0 "com/example/transaction_scopes/transactionscopes/Isolation" "DEFAULT" "Lcom/example/transaction_scopes/transactionscopes/Isolation;" (.ref w15)) (H2 : Sta Z h0 "java/util/ImmutableCollections" "EMPTY_MAP" "Ljava/util/ImmutableCollections$MapN;" (.ref w21)) :
    OMetS l Z (⟨"com/example/transaction_scopes/transactionscopes/ScopeSettings", "of", "(Lcom/example/transaction_scopes/transactionscopes/Propagation;)Lcom/example/transaction_scopes/transactionscopes/ScopeSettings;"⟩ : MethodName) prog_12_method_2_code 1 (some (.object "com/example/transaction_scopes/transactionscopes/ScopeSettings")) [] ({ frames := 2, cells := 3, slots := 53, locals := 30 } : Room) h0 #[(.ref a7)] (Qr2_1 Z a7 w15 w21 h0 n0) := by
  refine MetFree.of_bodySF (plainFor_of_name pn_com_example_transaction_scopes_transactionscopes_ScopeSettings) hisR ?_
  intro p e s m args below meth c s₁ Bd hml0 hP hK
  obtain ⟨rfl, hZ, hh⟩ := hP
  have hx := Bd.exec
  have hby := Bd.bytes
  have hml : c.maxLocals = 1 := hml0
  have hown : s.vm.findClass "com/example/transaction_scopes/transactionscopes/ScopeSettings" = some m.cls := findClass_of_methodNamed Bd.named
  have hnm := (name_of_methodNamed Bd.named Bd.method).1
  have X0 : Stand p l e ({ frames := 2, cells := 3, slots := 53, locals := 30 } : Room) s m #[(.ref a7)] below meth c s₁ [] 0 0 := Stand.of_body Bd
  have e0 : s₁.heap = h0 := by rw [← hh, Bd.state]; rfl
  have N0 := Fr.nil n0
  have pre0 : ∀ t, Steps p.tables e below (s₁.setTop (mkF m 0 #[.val (.ref a7)] [])) t → Steps p.tables e below (s₁.setTop (entryFrame m #[(.ref a7)] 1)) t := fun t k => castTop (ef_2_v m a7) k
  obtain ⟨T8, h8, X8, e8, E8, A8, D8, -, st8⟩ := newO X0 hx hZ hown (hw _ (List.mem_of_getElem? (i := 12) rfl)) (hw _ (List.mem_of_getElem? (i := 13) rfl)) (hw _ (List.mem_of_getElem? (i := 10) rfl)) e0 (g := (mkF m 0 #[.val (.ref a7)] [])) rfl (hb hby d2_0) (by decide) (by decide)
  obtain ⟨b8, g8⟩ : ∃ z, z = h0.size := ⟨_, rfl⟩
  rw [← g8] at A8 D8 st8
  have KC8 := KSx.ext (KSx.refl h0 []) E8
  obtain ⟨b9, T9, h9, k9, X9, e9, E9, hS9, hk9, hZ9, ho9, st9⟩ := ldcS (s := s) (vm0 := s.vm) X8 hx hZ hown (hw _ (List.mem_of_getElem? (i := 14) rfl)) (fun d hd => hw d (str_in d hd)) e8 ((State.WarmedH.refl s).since 0) (Nat.zero_le _) (g := (mkF m 5 #[.val (.ref a7)] [(.ref a7), (.ref b8), (.ref b8)])) rfl (hb hby d2_5) (n := 44) (by decide) (by decide) (by decide) (by decide)
  have KC9 := KSx.ext KC8 E9
  have Z8 : n0 ≤ h8.size := Nat.le_trans Z0 E8.1
  have Z9 : n0 ≤ h9.size := Nat.le_trans Z8 E9.1
  obtain ⟨_, _, ⟨T12, L12, k12, n12⟩, -, X12, ⟨Lc12, hQ12, l12, y12, z12⟩, st12⟩ := Jvm.LawKit.callS X9 hx (y := (⟨"java/util/Objects", "requireNonNull", "(Ljava/lang/Object;Ljava/lang/String;)Ljava/lang/Object;"⟩ : MethodName)) ho9 (mvT hZ9 (hw _ (List.mem_of_getElem? (i := 22) rfl))) (mvT hZ9 (hw _ (List.mem_of_getElem? (i := 23) rfl))) (mvT hZ9 (hw _ (List.mem_of_getElem? (i := 24) rfl))) (mvT hZ9 (hw _ (List.mem_of_getElem? (i := 25) rfl))) (by decide) (backOf (W := 2) (r3_1 l Z a0 hw a7 b9 h9 n0 Z9 ) hZ9 (hw _ (List.mem_of_getElem? (i := 25) rfl)) (hw _ (List.mem_of_getElem? (i := 24) rfl)) (by decide) (by decide)) (g := (mkF m 7 #[.val (.ref a7)] [(.ref b9), (.ref a7), (.ref b8), (.ref b8)])) rfl (by rw [hml]; rfl) (argsL := [(.ref a7), (.ref b9)]) (rest := [(.ref b8), (.ref b8)]) (lenOf pd_1 rfl) rfl (by show 2 * 0 + _ ≤ _; exact Nat.le_of_eq rfl) (hb hby d2_7) (fun _ _ => ⟨rfl, e9, (by decide : 3 + 0 ≤ _), (by decide : 53 + 0 ≤ _)⟩)
  dsimp only [Pt.U, Pt.locs, Pt.cells, Pt.slots] at X12 l12 y12 z12 st12 hQ12
  subst l12 y12 z12
  obtain ⟨rfl, N12q, e12⟩ := hQ12
  have N12 := Fr.app N0 N12q
  have f13 := ((H0.ext E8).ext E9)
  obtain ⟨T14, X14, e14, st14⟩ := castY X12 hx hZ9 ho9 (hw _ (List.mem_of_getElem? (i := 26) rfl)) e12 (Ins.self f13) (g := (mkF m 10 #[.val (.ref a7)] [(.ref a7), (.ref b8), (.ref b8)])) rfl rfl (hb hby d2_10)
  have f16 := ((H1.ext E8).ext E9)
  obtain ⟨T17, X17, e17, st17⟩ := getS2 X14 hx hZ9 ho9 (host := "") (Or.inl (hw _ (List.mem_of_getElem? (i := 28) rfl))) Via.refl e14 f16 (g := (mkF m 13 #[.val (.ref a7)] [(.ref a7), (.ref b8), (.ref b8)])) rfl (hb hby d2_13)
  have f22 := ((H2.ext E8).ext E9)
  obtain ⟨_, _, ⟨T20, L20, k20, n20⟩, -, X20, ⟨Lc20, hQ20, l20, y20, z20⟩, st20⟩ := Jvm.LawKit.callS X17 hx (y := (⟨"java/util/Map", "of", "()Ljava/util/Map;"⟩ : MethodName)) ho9 (mvT hZ9 (hw _ (List.mem_of_getElem? (i := 31) rfl))) (mvT hZ9 (hw _ (List.mem_of_getElem? (i := 32) rfl))) (mvT hZ9 (hw _ (List.mem_of_getElem? (i := 33) rfl))) (mvT hZ9 (hw _ (List.mem_of_getElem? (i := 34) rfl))) (by decide) (backOf (W := 6) (r4_1 l Z a0 hw w21 h9 n0 Z9 f22) hZ9 (hw _ (List.mem_of_getElem? (i := 34) rfl)) (hw _ (List.mem_of_getElem? (i := 33) rfl)) (by decide) (by decide)) (g := (mkF m 18 #[.val (.ref a7)] [.null, (.int (0 : Int32)), (.ref w15), (.ref a7), (.ref b8), (.ref b8)])) rfl (by rw [hml]; rfl) (argsL := []) (rest := [.null, (.int (0 : Int32)), (.ref w15), (.ref a7), (.ref b8), (.ref b8)]) (lenOf pd_2 rfl) rfl (by show 2 * 0 + _ ≤ _; exact Nat.le_of_eq rfl) (hb hby d2_18) (fun _ _ => ⟨rfl, e17, (by decide : 3 + 0 ≤ _), (by decide : 53 + 0 ≤ _)⟩)
  dsimp only [Pt.U, Pt.locs, Pt.cells, Pt.slots] at X20 l20 y20 z20 st20 hQ20
  subst l20 y20 z20
  obtain ⟨rfl, N20q, e20⟩ := hQ20
  have N20 := Fr.app N12 N20q
  have f48 := (A8.ext E9)
  have f49 := ((D8 (Or.inr (hw _ (List.mem_of_getElem? (i := 44) rfl))) (ty := (.object "com/example/transaction_scopes/transactionscopes/Propagation")) (by decide)).ext E9)
  have g50 : n0 ≤ b8 := Nat.le_trans Z0 (Nat.le_of_eq g8.symm)
  have f51 := ((D8 (Or.inr (hw _ (List.mem_of_getElem? (i := 46) rfl))) (ty := (.object "com/example/transaction_scopes/transactionscopes/Isolation")) (by decide)).ext E9)
  have f52 := ((D8 (Or.inr (hw _ (List.mem_of_getElem? (i := 48) rfl))) (ty := .boolean) (by decide)).ext E9)
  have f53 := ((D8 (Or.inr (hw _ (List.mem_of_getElem? (i := 50) rfl))) (ty := (.object "java/time/Duration")) (by decide)).ext E9)
  have f54 := ((D8 (Or.inr (hw _ (List.mem_of_getElem? (i := 52) rfl))) (ty := (.object "java/util/Map")) (by decide)).ext E9)
  obtain ⟨_, _, ⟨T47, L47, k47, n47⟩, -, X47, ⟨Lc47, hQ47, l47, y47, z47⟩, st47⟩ := X20.specialBack hx (y := (⟨"com/example/transaction_scopes/transactionscopes/ScopeSettings", "<init>", "(Lcom/example/transaction_scopes/transactionscopes/Propagation;Lcom/example/transaction_scopes/transactionscopes/Isolation;ZLjava/time/Duration;Ljava/util/Map;)V"⟩ : MethodName)) rfl ho9 (mvT hZ9 (hw _ (List.mem_of_getElem? (i := 37) rfl))) (mvT hZ9 (hw _ (List.mem_of_getElem? (i := 38) rfl))) (mvT hZ9 (hw _ (List.mem_of_getElem? (i := 39) rfl))) (by decide) (backOf (W := 1) (r5_1 l Z a0 hw b8 a7 w15 (0 : Int32) w21 (0 : Int32) h9 n0 Z9 f48 f49 g50 f51 f52 rfl f53 f54) hZ9 (hw _ (List.mem_of_getElem? (i := 39) rfl)) (hw _ (List.mem_of_getElem? (i := 10) rfl)) (by decide) (by decide)) (g := (mkF m 21 #[.val (.ref a7)] [(.ref w21), .null, (.int (0 : Int32)), (.ref w15), (.ref a7), (.ref b8), (.ref b8)])) rfl (by rw [hml]; rfl) (Steps.refl _) (a := b8) (argsL := [(.ref a7), (.ref w15), (.int (0 : Int32)), .null, (.ref w21)]) (rest := [(.ref b8)]) (lenOf pd_3 rfl) rfl (by show 2 * 0 + _ ≤ _; exact Nat.le_of_eq rfl) (hb hby d2_21) (fun _ _ => ⟨rfl, e20, (by decide : 3 + 0 ≤ _), (by decide : 53 + 0 ≤ _)⟩)
  dsimp only [Pt.U, Pt.locs, Pt.cells, Pt.slots] at X47 l47 y47 z47 st47 hQ47
  subst l47 y47 z47
  obtain ⟨N47q, rfl, K47, o47_0, o47_1, o47_2, o47_3, o47_4⟩ := hQ47
  have N47 := Fr.app N20 N47q
  have z55 : h0.size ≤ b8 := Nat.le_trans (KSx.refl h0 []).1 (Nat.le_of_eq g8.symm)
  have KC47 := KSx.trans KC9 K47 (ksS (Or.inr z55) (ksS (Or.inr z55) (ksS (Or.inr z55) (ksS (Or.inr z55) (ksS (Or.inr z55) ks0)))))
  have f56 := (f48.ks K47)
  obtain ⟨fs, hr, hrun, hended, hR1, hR2, hR3, hR4⟩ := X47.leaveW (s := s) hS9 ((Nat.le_trans hk9 K47.1)) (v := some (.ref b8)) (fun h => by rw [Bd.returns] at h; cases h)
  refine ⟨_, _, pre0 _ ?_, hrun, hended, _, _, rfl, ?_, hR1, hR2, hR3, hR4.mono (by decide) (by decide)⟩
  · show Steps p.tables e below (s₁.setTop (mkF m 0 #[.val (.ref a7)] [])) _
    refine st8 _ ?_
    show Steps p.tables e below (T8.setTop (mkF m 3 #[.val (.ref a7)] [(.ref b8)])) _
    refine XS.dup X8.here hx rfl (hb hby d2_3) rfl rfl ?_
    show Steps p.tables e below (T8.setTop (mkF m 4 #[.val (.ref a7)] [(.ref b8), (.ref b8)])) _
    refine XS.aloadN X8.here hx rfl (hb hby d2_4) rfl rfl ?_
    show Steps p.tables e below (T8.setTop (mkF m 5 #[.val (.ref a7)] [(.ref a7), (.ref b8), (.ref b8)])) _
    refine st9 _ ?_
    show Steps p.tables e below (T9.setTop (mkF m 7 #[.val (.ref a7)] [(.ref b9), (.ref a7), (.ref b8), (.ref b8)])) _
    refine st12 _ ?_
    show Steps p.tables e below (T12.setTop (mkF m 10 #[.val (.ref a7)] [(.ref a7), (.ref b8), (.ref b8)])) _
    refine st14 _ ?_
    show Steps p.tables e below (T14.setTop (mkF m 13 #[.val (.ref a7)] [(.ref a7), (.ref b8), (.ref b8)])) _
    refine st17 _ ?_
    show Steps p.tables e below (T17.setTop (mkF m 16 #[.val (.ref a7)] [(.ref w15), (.ref a7), (.ref b8), (.ref b8)])) _
    refine XS.iconst X17.here hx rfl (hb hby d2_16) ?_
    show Steps p.tables e below (T17.setTop (mkF m 17 #[.val (.ref a7)] [(.int (0 : Int32)), (.ref w15), (.ref a7), (.ref b8), (.ref b8)])) _
    refine XS.aconstNull X17.here hx rfl (hb hby d2_17) ?_
    show Steps p.tables e below (T17.setTop (mkF m 18 #[.val (.ref a7)] [.null, (.int (0 : Int32)), (.ref w15), (.ref a7), (.ref b8), (.ref b8)])) _
    refine st20 _ ?_
    show Steps p.tables e below (T20.setTop (mkF m 21 #[.val (.ref a7)] [(.ref w21), .null, (.int (0 : Int32)), (.ref w15), (.ref a7), (.ref b8), (.ref b8)])) _
    refine st47.trans ?_
    show Steps p.tables e below (T47.setTop (mkF m 24 #[.val (.ref a7)] [(.ref b8)])) _
    jvm_step X47.here [X47.here.top, hx, (hb hby d2_24), X47.method', Bd.returns, Value.isRef, FieldType.isReference]
    first | (intro acts; rw [hr _ acts rfl rfl rfl]) | rw [hr _ _ rfl rfl rfl]
    exact Steps.refl _
  · show Qr2_1 Z a7 w15 w21 h0 n0 _ T47.heap _
    exact ⟨N47, b8, rfl, z55, KC47, f56, o47_0, o47_1, o47_2, o47_3, o47_4⟩
theorem pd_4 : parseMethodDescriptor "(Lcom/example/transaction_scopes/transactionscopes/Propagation;)Lcom/example/transaction_scopes/transactionscopes/ScopeSettings;" = some ⟨[(.object "com/example/transaction_scopes/transactionscopes/Propagation")], some (.object "com/example/transaction_scopes/transactionscopes/ScopeSettings")⟩ := by decide +kernel
theorem d7_0 : decode prog_12_method_11_code 0 = .ok (.aload_n 0, 1) := by decide +kernel
theorem d7_1 : decode prog_12_method_11_code 1 = .ok (.getfield 7, 3) := by decide +kernel
theorem d7_4 : decode prog_12_method_11_code 4 = .ok (.areturn, 1) := by decide +kernel
theorem ef_7_v (m : MethodId) (x0 : Addr) : entryFrame m #[(.ref x0)] 1 = mkF m 0 #[.val (.ref x0)] [] := by first | (simp [entryFrame, mkF, argsToLocals, Value.category]; done) | rfl
set_option maxRecDepth 65536 in
set_option maxHeartbeats 40000000 in
theorem r7_1 (l : Launch) (Z : State) (a0 : Array Value) (hw : ∀ d ∈ tables_1, d.before a0 Z = true) (a60 : Addr) (w61 : Addr) (h0 : Heap) (n0 : Nat) (Z0 : n0 ≤ h0.size) (H0 : Fld Z h0 a60 "com/example/transaction_scopes/transactionscopes/ScopeSettings" "propagation" "Lcom/example/transaction_scopes/transactionscopes/Propagation;" (.ref w61)) :
    OMet l Z (⟨"com/example/transaction_scopes/transactionscopes/ScopeSettings", "propagation", "()Lcom/example/transaction_scopes/transactionscopes/Propagation;"⟩ : MethodName) prog_12_method_11_code 1 (some (.object "com/example/transaction_scopes/transactionscopes/Propagation")) [] ({ frames := 0, cells := 0, slots := 0, locals := 0 } : Room) h0 #[(.ref a60)] (OQp (some (.ref w61)) h0 n0) := by
  refine MetFree.of_bodySF (plainFor_of_name pn_com_example_transaction_scopes_transactionscopes_ScopeSettings) hisR ?_
  intro p e s m args below meth c s₁ Bd hml0 hP hK
  obtain ⟨rfl, hZ, hh⟩ := hP
  have hx := Bd.exec
  have hby := Bd.bytes
  have hml : c.maxLocals = 1 := hml0
  have hown : s.vm.findClass "com/example/transaction_scopes/transactionscopes/ScopeSettings" = some m.cls := findClass_of_methodNamed Bd.named
  have hnm := (name_of_methodNamed Bd.named Bd.method).1
  have X0 : Stand p l e ({ frames := 0, cells := 0, slots := 0, locals := 0 } : Room) s m #[(.ref a60)] below meth c s₁ [] 0 0 := Stand.of_body Bd
  have e0 : s₁.heap = h0 := by rw [← hh, Bd.state]; rfl
  have N0 := Fr.nil n0
  have pre0 : ∀ t, Steps p.tables e below (s₁.setTop (mkF m 0 #[.val (.ref a60)] [])) t → Steps p.tables e below (s₁.setTop (entryFrame m #[(.ref a60)] 1)) t := fun t k => castTop (ef_7_v m a60) k
  obtain ⟨T62, X62, e62, st62⟩ := getF X0 hx hZ hown (host := "") (Or.inl (hw _ (List.mem_of_getElem? (i := 43) rfl))) Via.refl e0 H0 (g := (mkF m 1 #[.val (.ref a60)] [(.ref a60)])) rfl rfl (hb hby d7_1)
  obtain ⟨fs, hr, hrun, hended, hW, hsame⟩ := X62.leave (v := some (.ref w61)) (fun h => by rw [Bd.returns] at h; cases h)
  refine ⟨_, _, pre0 _ ?_, hrun, hended, _, _, rfl, ?_, ⟨_, rfl⟩, hW, hsame.mono (by decide) (by decide)⟩
  · show Steps p.tables e below (s₁.setTop (mkF m 0 #[.val (.ref a60)] [])) _
    refine XS.aloadN X0.here hx rfl (hb hby d7_0) rfl rfl ?_
    show Steps p.tables e below (s₁.setTop (mkF m 1 #[.val (.ref a60)] [(.ref a60)])) _
    refine st62 _ ?_
    show Steps p.tables e below (T62.setTop (mkF m 4 #[.val (.ref a60)] [(.ref w61)])) _
    jvm_step X62.here [X62.here.top, hx, (hb hby d7_4), X62.method', Bd.returns, Value.isRef, FieldType.isReference]
    first | (intro acts; rw [hr _ acts rfl rfl rfl]) | rw [hr _ _ rfl rfl rfl]
    exact Steps.refl _
  · show OQp (some (.ref w61)) h0 n0 _ T62.heap _
    rw [e62]
    exact ⟨rfl, N0, rfl⟩
theorem pd_5 : parseMethodDescriptor "()Lcom/example/transaction_scopes/transactionscopes/Propagation;" = some ⟨[], some (.object "com/example/transaction_scopes/transactionscopes/Propagation")⟩ := by decide +kernel
theorem d8_0 : decode prog_12_method_12_code 0 = .ok (.aload_n 0, 1) := by decide +kernel
theorem d8_1 : decode prog_12_method_12_code 1 = .ok (.getfield 13, 3) := by decide +kernel
theorem d8_4 : decode prog_12_method_12_code 4 = .ok (.areturn, 1) := by decide +kernel
theorem ef_8_v (m : MethodId) (x0 : Addr) : entryFrame m #[(.ref x0)] 1 = mkF m 0 #[.val (.ref x0)] [] := by first | (simp [entryFrame, mkF, argsToLocals, Value.category]; done) | rfl
set_option maxRecDepth 65536 in
set_option maxHeartbeats 40000000 in
theorem r8_1 (l : Launch) (Z : State) (a0 : Array Value) (hw : ∀ d ∈ tables_1, d.before a0 Z = true) (a64 : Addr) (w65 : Addr) (h0 : Heap) (n0 : Nat) (Z0 : n0 ≤ h0.size) (H0 : Fld Z h0 a64 "com/example/transaction_scopes/transactionscopes/ScopeSettings" "isolation" "Lcom/example/transaction_scopes/transactionscopes/Isolation;" (.ref w65)) :
    OMet l Z (⟨"com/example/transaction_scopes/transactionscopes/ScopeSettings", "isolation", "()Lcom/example/transaction_scopes/transactionscopes/Isolation;"⟩ : MethodName) prog_12_method_12_code 1 (some (.object "com/example/transaction_scopes/transactionscopes/Isolation")) [] ({ frames := 0, cells := 0, slots := 0, locals := 0 } : Room) h0 #[(.ref a64)] (OQp (some (.ref w65)) h0 n0) := by
  refine MetFree.of_bodySF (plainFor_of_name pn_com_example_transaction_scopes_transactionscopes_ScopeSettings) hisR ?_
  intro p e s m args below meth c s₁ Bd hml0 hP hK
  obtain ⟨rfl, hZ, hh⟩ := hP
  have hx := Bd.exec
  have hby := Bd.bytes
  have hml : c.maxLocals = 1 := hml0
  have hown : s.vm.findClass "com/example/transaction_scopes/transactionscopes/ScopeSettings" = some m.cls := findClass_of_methodNamed Bd.named
  have hnm := (name_of_methodNamed Bd.named Bd.method).1
  have X0 : Stand p l e ({ frames := 0, cells := 0, slots := 0, locals := 0 } : Room) s m #[(.ref a64)] below meth c s₁ [] 0 0 := Stand.of_body Bd
  have e0 : s₁.heap = h0 := by rw [← hh, Bd.state]; rfl
  have N0 := Fr.nil n0
  have pre0 : ∀ t, Steps p.tables e below (s₁.setTop (mkF m 0 #[.val (.ref a64)] [])) t → Steps p.tables e below (s₁.setTop (entryFrame m #[(.ref a64)] 1)) t := fun t k => castTop (ef_8_v m a64) k
  obtain ⟨T66, X66, e66, st66⟩ := getF X0 hx hZ hown (host := "") (Or.inl (hw _ (List.mem_of_getElem? (i := 45) rfl))) Via.refl e0 H0 (g := (mkF m 1 #[.val (.ref a64)] [(.ref a64)])) rfl rfl (hb hby d8_1)
  obtain ⟨fs, hr, hrun, hended, hW, hsame⟩ := X66.leave (v := some (.ref w65)) (fun h => by rw [Bd.returns] at h; cases h)
  refine ⟨_, _, pre0 _ ?_, hrun, hended, _, _, rfl, ?_, ⟨_, rfl⟩, hW, hsame.mono (by decide) (by decide)⟩
  · show Steps p.tables e below (s₁.setTop (mkF m 0 #[.val (.ref a64)] [])) _
    refine XS.aloadN X0.here hx rfl (hb hby d8_0) rfl rfl ?_
    show Steps p.tables e below (s₁.setTop (mkF m 1 #[.val (.ref a64)] [(.ref a64)])) _
    refine st66 _ ?_
    show Steps p.tables e below (T66.setTop (mkF m 4 #[.val (.ref a64)] [(.ref w65)])) _
    jvm_step X66.here [X66.here.top, hx, (hb hby d8_4), X66.method', Bd.returns, Value.isRef, FieldType.isReference]
    first | (intro acts; rw [hr _ acts rfl rfl rfl]) | rw [hr _ _ rfl rfl rfl]
    exact Steps.refl _
  · show OQp (some (.ref w65)) h0 n0 _ T66.heap _
    rw [e66]
    exact ⟨rfl, N0, rfl⟩
theorem pd_6 : parseMethodDescriptor "()Lcom/example/transaction_scopes/transactionscopes/Isolation;" = some ⟨[], some (.object "com/example/transaction_scopes/transactionscopes/Isolation")⟩ := by decide +kernel
theorem d9_0 : decode prog_12_method_13_code 0 = .ok (.aload_n 0, 1) := by decide +kernel
theorem d9_1 : decode prog_12_method_13_code 1 = .ok (.getfield 17, 3) := by decide +kernel
theorem d9_4 : decode prog_12_method_13_code 4 = .ok (.ireturn, 1) := by decide +kernel
theorem ef_9_v (m : MethodId) (x0 : Addr) : entryFrame m #[(.ref x0)] 1 = mkF m 0 #[.val (.ref x0)] [] := by first | (simp [entryFrame, mkF, argsToLocals, Value.category]; done) | rfl
set_option maxRecDepth 65536 in
set_option maxHeartbeats 40000000 in
theorem r9_1 (l : Launch) (Z : State) (a0 : Array Value) (hw : ∀ d ∈ tables_1, d.before a0 Z = true) (a70 : Addr) (w71 : Int32) (h0 : Heap) (n0 : Nat) (Z0 : n0 ≤ h0.size) (H0 : Fld Z h0 a70 "com/example/transaction_scopes/transactionscopes/ScopeSettings" "readOnly" "Z" (.int w71)) (H1 : w71 = (0 : Int32)) :
    OMet l Z (⟨"com/example/transaction_scopes/transactionscopes/ScopeSettings", "isReadOnly", "()Z"⟩ : MethodName) prog_12_method_13_code 1 (some .boolean) [] ({ frames := 0, cells := 0, slots := 0, locals := 0 } : Room) h0 #[(.ref a70)] (OQp (some (.int w71)) h0 n0) := by
  refine MetFree.of_bodySF (plainFor_of_name pn_com_example_transaction_scopes_transactionscopes_ScopeSettings) hisR ?_
  intro p e s m args below meth c s₁ Bd hml0 hP hK
  obtain ⟨rfl, hZ, hh⟩ := hP
  have hx := Bd.exec
  have hby := Bd.bytes
  have hml : c.maxLocals = 1 := hml0
  have hown : s.vm.findClass "com/example/transaction_scopes/transactionscopes/ScopeSettings" = some m.cls := findClass_of_methodNamed Bd.named
  have hnm := (name_of_methodNamed Bd.named Bd.method).1
  have X0 : Stand p l e ({ frames := 0, cells := 0, slots := 0, locals := 0 } : Room) s m #[(.ref a70)] below meth c s₁ [] 0 0 := Stand.of_body Bd
  have e0 : s₁.heap = h0 := by rw [← hh, Bd.state]; rfl
  have N0 := Fr.nil n0
  have pre0 : ∀ t, Steps p.tables e below (s₁.setTop (mkF m 0 #[.val (.ref a70)] [])) t → Steps p.tables e below (s₁.setTop (entryFrame m #[(.ref a70)] 1)) t := fun t k => castTop (ef_9_v m a70) k
  obtain ⟨T72, X72, e72, st72⟩ := getF X0 hx hZ hown (host := "") (Or.inl (hw _ (List.mem_of_getElem? (i := 47) rfl))) Via.refl e0 H0 (g := (mkF m 1 #[.val (.ref a70)] [(.ref a70)])) rfl rfl (hb hby d9_1)
  obtain ⟨fs, hr, hrun, hended, hW, hsame⟩ := X72.leave (v := some (.int w71)) (fun h => by rw [Bd.returns] at h; cases h)
  refine ⟨_, _, pre0 _ ?_, hrun, hended, _, _, rfl, ?_, ⟨_, rfl⟩, hW, hsame.mono (by decide) (by decide)⟩
  · show Steps p.tables e below (s₁.setTop (mkF m 0 #[.val (.ref a70)] [])) _
    refine XS.aloadN X0.here hx rfl (hb hby d9_0) rfl rfl ?_
    show Steps p.tables e below (s₁.setTop (mkF m 1 #[.val (.ref a70)] [(.ref a70)])) _
    refine st72 _ ?_
    show Steps p.tables e below (T72.setTop (mkF m 4 #[.val (.ref a70)] [(.int w71)])) _
    exact retN X72 hx (t := .boolean) Bd.returns (by simp) (hb hby d9_4) (by rw [show nar .boolean w71 = w71 from by rw [H1]; rfl]; exact hr)
  · show OQp (some (.int w71)) h0 n0 _ T72.heap _
    rw [e72]
    exact ⟨rfl, N0, rfl⟩
theorem pd_7 : parseMethodDescriptor "()Z" = some ⟨[], some .boolean⟩ := by decide +kernel
theorem d10_0 : decode prog_12_method_14_code 0 = .ok (.aload_n 0, 1) := by decide +kernel
theorem d10_1 : decode prog_12_method_14_code 1 = .ok (.getfield 21, 3) := by decide +kernel
theorem d10_4 : decode prog_12_method_14_code 4 = .ok (.areturn, 1) := by decide +kernel
theorem ef_10_v (m : MethodId) (x0 : Addr) : entryFrame m #[(.ref x0)] 1 = mkF m 0 #[.val (.ref x0)] [] := by first | (simp [entryFrame, mkF, argsToLocals, Value.category]; done) | rfl
set_option maxRecDepth 65536 in
set_option maxHeartbeats 40000000 in
theorem r10_1 (l : Launch) (Z : State) (a0 : Array Value) (hw : ∀ d ∈ tables_1, d.before a0 Z = true) (a74 : Addr) (h0 : Heap) (n0 : Nat) (Z0 : n0 ≤ h0.size) (H0 : Fld Z h0 a74 "com/example/transaction_scopes/transactionscopes/ScopeSettings" "timeout" "Ljava/time/Duration;" .null) :
    OMet l Z (⟨"com/example/transaction_scopes/transactionscopes/ScopeSettings", "timeout", "()Ljava/time/Duration;"⟩ : MethodName) prog_12_method_14_code 1 (some (.object "java/time/Duration")) [] ({ frames := 0, cells := 0, slots := 0, locals := 0 } : Room) h0 #[(.ref a74)] (OQp (some .null) h0 n0) := by
  refine MetFree.of_bodySF (plainFor_of_name pn_com_example_transaction_scopes_transactionscopes_ScopeSettings) hisR ?_
  intro p e s m args below meth c s₁ Bd hml0 hP hK
  obtain ⟨rfl, hZ, hh⟩ := hP
  have hx := Bd.exec
  have hby := Bd.bytes
  have hml : c.maxLocals = 1 := hml0
  have hown : s.vm.findClass "com/example/transaction_scopes/transactionscopes/ScopeSettings" = some m.cls := findClass_of_methodNamed Bd.named
  have hnm := (name_of_methodNamed Bd.named Bd.method).1
  have X0 : Stand p l e ({ frames := 0, cells := 0, slots := 0, locals := 0 } : Room) s m #[(.ref a74)] below meth c s₁ [] 0 0 := Stand.of_body Bd
  have e0 : s₁.heap = h0 := by rw [← hh, Bd.state]; rfl
  have N0 := Fr.nil n0
  have pre0 : ∀ t, Steps p.tables e below (s₁.setTop (mkF m 0 #[.val (.ref a74)] [])) t → Steps p.tables e below (s₁.setTop (entryFrame m #[(.ref a74)] 1)) t := fun t k => castTop (ef_10_v m a74) k
  obtain ⟨T75, X75, e75, st75⟩ := getF X0 hx hZ hown (host := "") (Or.inl (hw _ (List.mem_of_getElem? (i := 49) rfl))) Via.refl e0 H0 (g := (mkF m 1 #[.val (.ref a74)] [(.ref a74)])) rfl rfl (hb hby d10_1)
  obtain ⟨fs, hr, hrun, hended, hW, hsame⟩ := X75.leave (v := some .null) (fun h => by rw [Bd.returns] at h; cases h)
  refine ⟨_, _, pre0 _ ?_, hrun, hended, _, _, rfl, ?_, ⟨_, rfl⟩, hW, hsame.mono (by decide) (by decide)⟩
  · show Steps p.tables e below (s₁.setTop (mkF m 0 #[.val (.ref a74)] [])) _
    refine XS.aloadN X0.here hx rfl (hb hby d10_0) rfl rfl ?_
    show Steps p.tables e below (s₁.setTop (mkF m 1 #[.val (.ref a74)] [(.ref a74)])) _
    refine st75 _ ?_
    show Steps p.tables e below (T75.setTop (mkF m 4 #[.val (.ref a74)] [.null])) _
    jvm_step X75.here [X75.here.top, hx, (hb hby d10_4), X75.method', Bd.returns, Value.isRef, FieldType.isReference]
    first | (intro acts; rw [hr _ acts rfl rfl rfl]) | rw [hr _ _ rfl rfl rfl]
    exact Steps.refl _
  · show OQp (some .null) h0 n0 _ T75.heap _
    rw [e75]
    exact ⟨rfl, N0, rfl⟩
theorem pd_8 : parseMethodDescriptor "()Ljava/time/Duration;" = some ⟨[], some (.object "java/time/Duration")⟩ := by decide +kernel
theorem ef_0_v (m : MethodId) (x0 : Int32) : entryFrame m #[(.int x0)] maxLocals = mkF m 0 #[.val (.int x0), .unset, .unset] [] := by first | (simp [entryFrame, mkF, argsToLocals, Value.category, maxLocals]; done) | rfl
set_option maxRecDepth 65536 in
set_option maxHeartbeats 40000000 in
theorem r0_1 (l : Launch) (Z : State) (a0 : Array Value) (hw : ∀ d ∈ tables_1, d.before a0 Z = true) (p1 : Int32) (w6 : Addr) (w58 : Addr) (w59 : Addr) (h0 : Heap) (n0 : Nat) (Z0 : n0 ≤ h0.size) (H0 : ((p1 &&& (2147483647 : Int32)) % (7 : Int32)) = (0 : Int32)) (H1 : Sta Z h0 "com/example/transaction_scopes/transactionscopes/Propagation" "REQUIRED" "Lcom/example/transaction_scopes/transactionscopes/Propagation;" (.ref w6)) (H2 : Exa Z h0 w6 "com/example/transaction_scopes/transactionscopes/Propagation") (H3 : Sta Z h0 "com/example/transaction_scopes/transactionscopes/Isolation" "DEFAULT" "Lcom/example/transaction_scopes/transactionscopes/Isolation;" (.ref w58)) (H4 : Sta Z h0 "java/util/ImmutableCollections" "EMPTY_MAP" "Ljava/util/ImmutableCollections$MapN;" (.ref w59)) :
    OMetS l Z x code maxLocals ret tables_1 room_1 h0 #[(.int p1)] (OQl (some (.int (1 : Int32))) n0) := by
  refine MetFree.of_bodySF (plainFor_of_name pn_com_example_transaction_scopes_transactionscopes_ScopeSettingsOfPinLaw) hisR ?_
  intro p e s m args below meth c s₁ Bd hml0 hP hK
  obtain ⟨rfl, hZ, hh⟩ := hP
  have hx := Bd.exec
  have hby := Bd.bytes
  have hml : c.maxLocals = 3 := hml0
  have hown : s.vm.findClass "com/example/transaction_scopes/transactionscopes/ScopeSettingsOfPinLaw" = some m.cls := findClass_of_methodNamed Bd.named
  have hnm := (name_of_methodNamed Bd.named Bd.method).1
  have X0 : Stand p l e room_1 s m #[(.int p1)] below meth c s₁ [] 0 0 := Stand.of_body Bd
  have e0 : s₁.heap = h0 := by rw [← hh, Bd.state]; rfl
  have N0 := Fr.nil n0
  have pre0 : ∀ t, Steps p.tables e below (s₁.setTop (mkF m 0 #[.val (.int p1), .unset, .unset] [])) t → Steps p.tables e below (s₁.setTop (entryFrame m #[(.int p1)] maxLocals)) t := fun t k => castTop (ef_0_v m p1) k
  obtain ⟨_, _, ⟨T5, L5, k5, n5⟩, -, X5, ⟨Lc5, hQ5, l5, y5, z5⟩, st5⟩ := Jvm.LawKit.callS X0 hx (y := (⟨"com/example/transaction_scopes/transactionscopes/ScopeSettingsOfPinLaw", "pick", "(I)Lcom/example/transaction_scopes/transactionscopes/Propagation;"⟩ : MethodName)) hown (mvT hZ (hw _ (List.mem_of_getElem? (i := 0) rfl))) (mvT hZ (hw _ (List.mem_of_getElem? (i := 1) rfl))) (mvT hZ (hw _ (List.mem_of_getElem? (i := 2) rfl))) (mvT hZ (hw _ (List.mem_of_getElem? (i := 3) rfl))) (by decide) (backOf (W := 0) (r1_1 l Z a0 hw p1 w6 h0 n0 Z0 H0 H1) hZ (hw _ (List.mem_of_getElem? (i := 3) rfl)) (hw _ (List.mem_of_getElem? (i := 2) rfl)) (by decide) (by decide)) (g := (mkF m 1 #[.val (.int p1), .unset, .unset] [(.int p1)])) rfl (by rw [hml]; rfl) (argsL := [(.int p1)]) (rest := []) (lenOf pd_0 rfl) rfl (by show 2 * 0 + _ ≤ _; exact Nat.le_of_eq rfl) (hb hby at_1) (fun _ _ => ⟨rfl, e0, (by decide : 0 + 0 ≤ _), (by decide : 0 + 0 ≤ _)⟩)
  dsimp only [Pt.U, Pt.locs, Pt.cells, Pt.slots] at X5 l5 y5 z5 st5 hQ5
  subst l5 y5 z5
  obtain ⟨rfl, N5q, e5⟩ := hQ5
  have N5 := Fr.app N0 N5q
  obtain ⟨_, _, ⟨T57, L57, k57, n57⟩, -, X57, hs57, hg57, ⟨Lc57, hQ57, l57, y57, z57⟩, st57⟩ := callSS X5 hx (y := (⟨"com/example/transaction_scopes/transactionscopes/ScopeSettings", "of", "(Lcom/example/transaction_scopes/transactionscopes/Propagation;)Lcom/example/transaction_scopes/transactionscopes/ScopeSettings;"⟩ : MethodName)) hown (mvT hZ (hw _ (List.mem_of_getElem? (i := 8) rfl))) (mvT hZ (hw _ (List.mem_of_getElem? (i := 9) rfl))) (mvT hZ (hw _ (List.mem_of_getElem? (i := 10) rfl))) (mvT hZ (hw _ (List.mem_of_getElem? (i := 11) rfl))) (by decide) (backOfS (W := 0) (r2_1 l Z a0 hw w6 w58 w59 h0 n0 Z0 H2 H3 H4) hZ (hw _ (List.mem_of_getElem? (i := 11) rfl)) (hw _ (List.mem_of_getElem? (i := 10) rfl)) (by decide) (by decide)) (g := (mkF m 6 #[.val (.int p1), .val (.ref w6), .unset] [(.ref w6)])) rfl (by rw [hml]; rfl) (argsL := [(.ref w6)]) (rest := []) (lenOf pd_4 rfl) rfl (by show 2 * 0 + _ ≤ _; exact Nat.le_of_eq rfl) (hb hby at_6) (fun _ _ => ⟨rfl, e5, (by decide : 0 + 3 ≤ _), (by decide : 0 + 53 ≤ _)⟩)
  dsimp only [Pt.U, Pt.locs, Pt.cells, Pt.slots] at X57 l57 y57 z57 st57 hQ57 hs57 hg57
  subst l57 y57 z57
  obtain ⟨N57q, b57_0, rfl, ge_b57_0, K57, o57_0, o57_1, o57_2, o57_3, o57_4, o57_5⟩ := hQ57
  have N57 := Fr.app N5 N57q
  have KC57 := KSx.trans (KSx.refl h0 []) K57 ks0
  have hS57 : s.Since T57.vm T57.heap.size := hs57
  have hZ57 : Z.Warmed39 (s.setVm T57.vm).vm := State.Warmed39.trans (t := s) hZ hs57.1
  have ho57 : (s.setVm T57.vm).vm.findClass "com/example/transaction_scopes/transactionscopes/ScopeSettingsOfPinLaw" = some m.cls := by rw [show (s.setVm T57.vm).vm = T57.vm from rfl, hs57.1.alike.findClass]; exact hown
  replace X57 : Stand p l e room_1 (s.setVm T57.vm) m #[(.int p1)] below meth c T57 _ _ _ := X57
  have Z57 : n0 ≤ T57.heap.size := Nat.le_trans Z0 K57.1
  obtain ⟨cq63, kq63, q63a, q63b, q63c⟩ := isOf hZ57 rfl o57_0
  obtain ⟨_, _, ⟨T63, L63, k63, n63⟩, -, X63, ⟨Lc63, hQ63, l63, y63, z63⟩, st63⟩ := X57.virtualBack hx (y := (⟨"com/example/transaction_scopes/transactionscopes/ScopeSettings", "propagation", "()Lcom/example/transaction_scopes/transactionscopes/Propagation;"⟩ : MethodName)) (z := (⟨"com/example/transaction_scopes/transactionscopes/ScopeSettings", "propagation", "()Lcom/example/transaction_scopes/transactionscopes/Propagation;"⟩ : MethodName)) ho57 (mvT hZ57 (hw _ (List.mem_of_getElem? (i := 53) rfl))) (mvT hZ57 (hw _ (List.mem_of_getElem? (i := 54) rfl))) (notFace_of_selects (args := #[]) (mvT hZ57 (hw _ (List.mem_of_getElem? (i := 56) rfl)))) (mvT hZ57 (hw _ (List.mem_of_getElem? (i := 56) rfl))) (mvT hZ57 (hw _ (List.mem_of_getElem? (i := 55) rfl))) (by decide) (backOf (W := 0) (r7_1 l Z a0 hw b57_0 w6 T57.heap n0 Z57 o57_1) hZ57 (hw _ (List.mem_of_getElem? (i := 57) rfl)) (hw _ (List.mem_of_getElem? (i := 10) rfl)) (by decide) (by decide)) q63a q63c (g := (mkF m 17 #[.val (.int p1), .val (.ref w6), .val (.ref b57_0)] [(.ref b57_0)])) rfl (by rw [hml]; rfl) (Steps.refl _) (argsL := []) (rest := []) (lenOf pd_5 rfl) rfl (by show 2 * 0 + _ ≤ _; exact Nat.le_of_eq rfl) (hb hby at_17) (fun _ _ => ⟨rfl, rfl, (by decide : 3 + 0 ≤ _), (by decide : 53 + 0 ≤ _)⟩)
  dsimp only [Pt.U, Pt.locs, Pt.cells, Pt.slots] at X63 l63 y63 z63 st63 hQ63
  subst l63 y63 z63
  obtain ⟨rfl, N63q, e63⟩ := hQ63
  have N63 := Fr.app N57 N63q
  obtain ⟨cq67, kq67, q67a, q67b, q67c⟩ := isOf hZ57 e63 o57_0
  obtain ⟨_, _, ⟨T67, L67, k67, n67⟩, -, X67, ⟨Lc67, hQ67, l67, y67, z67⟩, st67⟩ := X63.virtualBack hx (y := (⟨"com/example/transaction_scopes/transactionscopes/ScopeSettings", "isolation", "()Lcom/example/transaction_scopes/transactionscopes/Isolation;"⟩ : MethodName)) (z := (⟨"com/example/transaction_scopes/transactionscopes/ScopeSettings", "isolation", "()Lcom/example/transaction_scopes/transactionscopes/Isolation;"⟩ : MethodName)) ho57 (mvT hZ57 (hw _ (List.mem_of_getElem? (i := 58) rfl))) (mvT hZ57 (hw _ (List.mem_of_getElem? (i := 59) rfl))) (notFace_of_selects (args := #[]) (mvT hZ57 (hw _ (List.mem_of_getElem? (i := 61) rfl)))) (mvT hZ57 (hw _ (List.mem_of_getElem? (i := 61) rfl))) (mvT hZ57 (hw _ (List.mem_of_getElem? (i := 60) rfl))) (by decide) (backOf (W := 0) (r8_1 l Z a0 hw b57_0 w58 T57.heap n0 Z57 o57_2) hZ57 (hw _ (List.mem_of_getElem? (i := 62) rfl)) (hw _ (List.mem_of_getElem? (i := 10) rfl)) (by decide) (by decide)) q67a q67c (g := (mkF m 25 #[.val (.int p1), .val (.ref w6), .val (.ref b57_0)] [(.ref b57_0)])) rfl (by rw [hml]; rfl) (Steps.refl _) (argsL := []) (rest := []) (lenOf pd_6 rfl) rfl (by show 2 * 0 + _ ≤ _; exact Nat.le_of_eq rfl) (hb hby at_25) (fun _ _ => ⟨rfl, e63, (by decide : 3 + 0 ≤ _), (by decide : 53 + 0 ≤ _)⟩)
  dsimp only [Pt.U, Pt.locs, Pt.cells, Pt.slots] at X67 l67 y67 z67 st67 hQ67
  subst l67 y67 z67
  obtain ⟨rfl, N67q, e67⟩ := hQ67
  have N67 := Fr.app N63 N67q
  have f68 := (H3.ks K57)
  obtain ⟨T69, X69, e69, st69⟩ := getS2 X67 hx hZ57 ho57 (host := "") (Or.inl (hw _ (List.mem_of_getElem? (i := 63) rfl))) Via.refl e67 f68 (g := (mkF m 28 #[.val (.int p1), .val (.ref w6), .val (.ref b57_0)] [(.ref w58)])) rfl (hb hby at_28)
  obtain ⟨cq73, kq73, q73a, q73b, q73c⟩ := isOf hZ57 e69 o57_0
  obtain ⟨_, _, ⟨T73, L73, k73, n73⟩, -, X73, ⟨Lc73, hQ73, l73, y73, z73⟩, st73⟩ := X69.virtualBack hx (y := (⟨"com/example/transaction_scopes/transactionscopes/ScopeSettings", "isReadOnly", "()Z"⟩ : MethodName)) (z := (⟨"com/example/transaction_scopes/transactionscopes/ScopeSettings", "isReadOnly", "()Z"⟩ : MethodName)) ho57 (mvT hZ57 (hw _ (List.mem_of_getElem? (i := 64) rfl))) (mvT hZ57 (hw _ (List.mem_of_getElem? (i := 65) rfl))) (notFace_of_selects (args := #[]) (mvT hZ57 (hw _ (List.mem_of_getElem? (i := 67) rfl)))) (mvT hZ57 (hw _ (List.mem_of_getElem? (i := 67) rfl))) (mvT hZ57 (hw _ (List.mem_of_getElem? (i := 66) rfl))) (by decide) (backOf (W := 0) (r9_1 l Z a0 hw b57_0 (0 : Int32) T57.heap n0 Z57 o57_3 rfl) hZ57 (hw _ (List.mem_of_getElem? (i := 68) rfl)) (hw _ (List.mem_of_getElem? (i := 10) rfl)) (by decide) (by decide)) q73a q73c (g := (mkF m 35 #[.val (.int p1), .val (.ref w6), .val (.ref b57_0)] [(.ref b57_0)])) rfl (by rw [hml]; rfl) (Steps.refl _) (argsL := []) (rest := []) (lenOf pd_7 rfl) rfl (by show 2 * 0 + _ ≤ _; exact Nat.le_of_eq rfl) (hb hby at_35) (fun _ _ => ⟨rfl, e69, (by decide : 3 + 0 ≤ _), (by decide : 53 + 0 ≤ _)⟩)
  dsimp only [Pt.U, Pt.locs, Pt.cells, Pt.slots] at X73 l73 y73 z73 st73 hQ73
  subst l73 y73 z73
  obtain ⟨rfl, N73q, e73⟩ := hQ73
  have N73 := Fr.app N67 N73q
  obtain ⟨cq76, kq76, q76a, q76b, q76c⟩ := isOf hZ57 e73 o57_0
  obtain ⟨_, _, ⟨T76, L76, k76, n76⟩, -, X76, ⟨Lc76, hQ76, l76, y76, z76⟩, st76⟩ := X73.virtualBack hx (y := (⟨"com/example/transaction_scopes/transactionscopes/ScopeSettings", "timeout", "()Ljava/time/Duration;"⟩ : MethodName)) (z := (⟨"com/example/transaction_scopes/transactionscopes/ScopeSettings", "timeout", "()Ljava/time/Duration;"⟩ : MethodName)) ho57 (mvT hZ57 (hw _ (List.mem_of_getElem? (i := 69) rfl))) (mvT hZ57 (hw _ (List.mem_of_getElem? (i := 70) rfl))) (notFace_of_selects (args := #[]) (mvT hZ57 (hw _ (List.mem_of_getElem? (i := 72) rfl)))) (mvT hZ57 (hw _ (List.mem_of_getElem? (i := 72) rfl))) (mvT hZ57 (hw _ (List.mem_of_getElem? (i := 71) rfl))) (by decide) (backOf (W := 0) (r10_1 l Z a0 hw b57_0 T57.heap n0 Z57 o57_4) hZ57 (hw _ (List.mem_of_getElem? (i := 73) rfl)) (hw _ (List.mem_of_getElem? (i := 10) rfl)) (by decide) (by decide)) q76a q76c (g := (mkF m 42 #[.val (.int p1), .val (.ref w6), .val (.ref b57_0)] [(.ref b57_0)])) rfl (by rw [hml]; rfl) (Steps.refl _) (argsL := []) (rest := []) (lenOf pd_8 rfl) rfl (by show 2 * 0 + _ ≤ _; exact Nat.le_of_eq rfl) (hb hby at_42) (fun _ _ => ⟨rfl, e73, (by decide : 3 + 0 ≤ _), (by decide : 53 + 0 ≤ _)⟩)
  dsimp only [Pt.U, Pt.locs, Pt.cells, Pt.slots] at X76 l76 y76 z76 st76 hQ76
  subst l76 y76 z76
  obtain ⟨rfl, N76q, e76⟩ := hQ76
  have N76 := Fr.app N73 N76q
  obtain ⟨fs, hr, hrun, hended, hR1, hR2, hR3, hR4⟩ := X76.leaveW (s := s) hS57 (by rw [e76]; exact (Nat.le_refl _)) (v := some (.int (1 : Int32))) (fun h => by rw [Bd.returns] at h; cases h)
  refine ⟨_, _, pre0 _ ?_, hrun, hended, _, _, rfl, ?_, hR1, hR2, hR3, hR4.mono (by decide) (by decide)⟩
  · show Steps p.tables e below (s₁.setTop (mkF m 0 #[.val (.int p1), .unset, .unset] [])) _
    refine XS.iloadN X0.here hx rfl (hb hby at_0) rfl ?_
    show Steps p.tables e below (s₁.setTop (mkF m 1 #[.val (.int p1), .unset, .unset] [(.int p1)])) _
    refine st5 _ ?_
    show Steps p.tables e below (T5.setTop (mkF m 4 #[.val (.int p1), .unset, .unset] [(.ref w6)])) _
    refine XS.astoreN X5.here hx rfl (hb hby at_4) rfl rfl (l' := #[.val (.int p1), .val (.ref w6), .unset]) rfl ?_
    show Steps p.tables e below (T5.setTop (mkF m 5 #[.val (.int p1), .val (.ref w6), .unset] [])) _
    refine XS.aloadN X5.here hx rfl (hb hby at_5) rfl rfl ?_
    show Steps p.tables e below (T5.setTop (mkF m 6 #[.val (.int p1), .val (.ref w6), .unset] [(.ref w6)])) _
    refine st57.trans ?_
    show Steps p.tables e below (T57.setTop (mkF m 9 #[.val (.int p1), .val (.ref w6), .unset] [(.ref b57_0)])) _
    refine XS.astoreN X57.here hx rfl (hb hby at_9) rfl rfl (l' := #[.val (.int p1), .val (.ref w6), .val (.ref b57_0)]) rfl ?_
    show Steps p.tables e below (T57.setTop (mkF m 10 #[.val (.int p1), .val (.ref w6), .val (.ref b57_0)] [])) _
    refine XS.aloadN X57.here hx rfl (hb hby at_10) rfl rfl ?_
    show Steps p.tables e below (T57.setTop (mkF m 11 #[.val (.int p1), .val (.ref w6), .val (.ref b57_0)] [(.ref b57_0)])) _
    refine XS.ifnonnullYes X57.here hx rfl (pc0 := 11) (pc' := 16) rfl (hb hby at_11) rfl (by decide) (by decide) ?_
    show Steps p.tables e below (T57.setTop (mkF m 16 #[.val (.int p1), .val (.ref w6), .val (.ref b57_0)] [])) _
    refine XS.aloadN X57.here hx rfl (hb hby at_16) rfl rfl ?_
    show Steps p.tables e below (T57.setTop (mkF m 17 #[.val (.int p1), .val (.ref w6), .val (.ref b57_0)] [(.ref b57_0)])) _
    refine st63.trans ?_
    show Steps p.tables e below (T63.setTop (mkF m 20 #[.val (.int p1), .val (.ref w6), .val (.ref b57_0)] [(.ref w6)])) _
    refine XS.aloadN X63.here hx rfl (hb hby at_20) rfl rfl ?_
    show Steps p.tables e below (T63.setTop (mkF m 21 #[.val (.int p1), .val (.ref w6), .val (.ref b57_0)] [(.ref w6), (.ref w6)])) _
    refine Jvm.RoadKit.acmp (g := (mkF m 21 #[.val (.int p1), .val (.ref w6), .val (.ref b57_0)] [(.ref w6), (.ref w6)])) X63 hx rfl rfl rfl (pc0 := 21) (pc' := 24) (same := true) rfl (hb hby at_21) rfl (decide_eq_true rfl) (by decide) (by decide) ?_
    show Steps p.tables e below (T63.setTop (mkF m 24 #[.val (.int p1), .val (.ref w6), .val (.ref b57_0)] [])) _
    refine XS.aloadN X63.here hx rfl (hb hby at_24) rfl rfl ?_
    show Steps p.tables e below (T63.setTop (mkF m 25 #[.val (.int p1), .val (.ref w6), .val (.ref b57_0)] [(.ref b57_0)])) _
    refine st67.trans ?_
    show Steps p.tables e below (T67.setTop (mkF m 28 #[.val (.int p1), .val (.ref w6), .val (.ref b57_0)] [(.ref w58)])) _
    refine st69 _ ?_
    show Steps p.tables e below (T69.setTop (mkF m 31 #[.val (.int p1), .val (.ref w6), .val (.ref b57_0)] [(.ref w58), (.ref w58)])) _
    refine Jvm.RoadKit.acmp (g := (mkF m 31 #[.val (.int p1), .val (.ref w6), .val (.ref b57_0)] [(.ref w58), (.ref w58)])) X69 hx rfl rfl rfl (pc0 := 31) (pc' := 34) (same := true) rfl (hb hby at_31) rfl (decide_eq_true rfl) (by decide) (by decide) ?_
    show Steps p.tables e below (T69.setTop (mkF m 34 #[.val (.int p1), .val (.ref w6), .val (.ref b57_0)] [])) _
    refine XS.aloadN X69.here hx rfl (hb hby at_34) rfl rfl ?_
    show Steps p.tables e below (T69.setTop (mkF m 35 #[.val (.int p1), .val (.ref w6), .val (.ref b57_0)] [(.ref b57_0)])) _
    refine st73.trans ?_
    show Steps p.tables e below (T73.setTop (mkF m 38 #[.val (.int p1), .val (.ref w6), .val (.ref b57_0)] [(.int (0 : Int32))])) _
    refine XS.ifNo X73.here hx rfl (hb hby at_38) rfl ((if0 _ _).trans (teq (rfl : (0 : Int32) = (0 : Int32))).2) ?_
    show Steps p.tables e below (T73.setTop (mkF m 41 #[.val (.int p1), .val (.ref w6), .val (.ref b57_0)] [])) _
    refine XS.aloadN X73.here hx rfl (hb hby at_41) rfl rfl ?_
    show Steps p.tables e below (T73.setTop (mkF m 42 #[.val (.int p1), .val (.ref w6), .val (.ref b57_0)] [(.ref b57_0)])) _
    refine st76.trans ?_
    show Steps p.tables e below (T76.setTop (mkF m 45 #[.val (.int p1), .val (.ref w6), .val (.ref b57_0)] [.null])) _
    refine XS.ifnonnullNo X76.here hx rfl (hb hby at_45) rfl ?_
    show Steps p.tables e below (T76.setTop (mkF m 48 #[.val (.int p1), .val (.ref w6), .val (.ref b57_0)] [])) _
    refine XS.iconst X76.here hx rfl (hb hby at_48) ?_
    show Steps p.tables e below (T76.setTop (mkF m 49 #[.val (.int p1), .val (.ref w6), .val (.ref b57_0)] [(.int (1 : Int32))])) _
    refine XS.goto X76.here hx rfl (pc0 := 49) (pc' := 53) rfl (hb hby at_49) (by decide) (by decide) ?_
    show Steps p.tables e below (T76.setTop (mkF m 53 #[.val (.int p1), .val (.ref w6), .val (.ref b57_0)] [(.int (1 : Int32))])) _
    exact retN X76 hx (t := .boolean) Bd.returns (by simp) (hb hby at_53) hr
  · show OQl (some (.int (1 : Int32))) n0 _ T76.heap _
    exact ⟨rfl, N76⟩
theorem d1_16 : decode method_2_code 16 = .ok (.iload_n 1, 1) := by decide +kernel
theorem d1_17 : decode method_2_code 17 = .ok (.iconst 1, 1) := by decide +kernel
theorem d1_18 : decode method_2_code 18 = .ok (.if_icmp .ne 7, 3) := by decide +kernel
theorem d1_21 : decode method_2_code 21 = .ok (.getstatic 14, 3) := by decide +kernel
theorem d1_24 : decode method_2_code 24 = .ok (.areturn, 1) := by decide +kernel
set_option maxRecDepth 65536 in
set_option maxHeartbeats 40000000 in
theorem r1_2 (l : Launch) (Z : State) (a0 : Array Value) (hw : ∀ d ∈ tables_1, d.before a0 Z = true) (p78 : Int32) (w79 : Addr) (h0 : Heap) (n0 : Nat) (Z0 : n0 ≤ h0.size) (H0 : ¬ (((p78 &&& (2147483647 : Int32)) % (7 : Int32)) = (0 : Int32))) (H1 : ((p78 &&& (2147483647 : Int32)) % (7 : Int32)) = (1 : Int32)) (H2 : Sta Z h0 "com/example/transaction_scopes/transactionscopes/Propagation" "SUPPORTS" "Lcom/example/transaction_scopes/transactionscopes/Propagation;" (.ref w79)) :
    OMet l Z (⟨"com/example/transaction_scopes/transactionscopes/ScopeSettingsOfPinLaw", "pick", "(I)Lcom/example/transaction_scopes/transactionscopes/Propagation;"⟩ : MethodName) method_2_code 2 (some (.object "com/example/transaction_scopes/transactionscopes/Propagation")) [] ({ frames := 0, cells := 0, slots := 0, locals := 0 } : Room) h0 #[(.int p78)] (OQp (some (.ref w79)) h0 n0) := by
  refine MetFree.of_bodySF (plainFor_of_name pn_com_example_transaction_scopes_transactionscopes_ScopeSettingsOfPinLaw) hisR ?_
  intro p e s m args below meth c s₁ Bd hml0 hP hK
  obtain ⟨rfl, hZ, hh⟩ := hP
  have hx := Bd.exec
  have hby := Bd.bytes
  have hml : c.maxLocals = 2 := hml0
  have hown : s.vm.findClass "com/example/transaction_scopes/transactionscopes/ScopeSettingsOfPinLaw" = some m.cls := findClass_of_methodNamed Bd.named
  have hnm := (name_of_methodNamed Bd.named Bd.method).1
  have X0 : Stand p l e ({ frames := 0, cells := 0, slots := 0, locals := 0 } : Room) s m #[(.int p78)] below meth c s₁ [] 0 0 := Stand.of_body Bd
  have e0 : s₁.heap = h0 := by rw [← hh, Bd.state]; rfl
  have N0 := Fr.nil n0
  have pre0 : ∀ t, Steps p.tables e below (s₁.setTop (mkF m 0 #[.val (.int p78), .unset] [])) t → Steps p.tables e below (s₁.setTop (entryFrame m #[(.int p78)] 2)) t := fun t k => castTop (ef_1_v m p78) k
  obtain ⟨T80, X80, e80, st80⟩ := getS2 X0 hx hZ hown (host := "") (Or.inl (hw _ (List.mem_of_getElem? (i := 84) rfl))) Via.refl e0 H2 (g := (mkF m 21 #[.val (.int p78), .val (.int ((p78 &&& (2147483647 : Int32)) % (7 : Int32)))] [])) rfl (hb hby d1_21)
  obtain ⟨fs, hr, hrun, hended, hW, hsame⟩ := X80.leave (v := some (.ref w79)) (fun h => by rw [Bd.returns] at h; cases h)
  refine ⟨_, _, pre0 _ ?_, hrun, hended, _, _, rfl, ?_, ⟨_, rfl⟩, hW, hsame.mono (by decide) (by decide)⟩
  · show Steps p.tables e below (s₁.setTop (mkF m 0 #[.val (.int p78), .unset] [])) _
    refine XS.iloadN X0.here hx rfl (hb hby d1_0) rfl ?_
    show Steps p.tables e below (s₁.setTop (mkF m 1 #[.val (.int p78), .unset] [(.int p78)])) _
    refine X0.ldcInt hx hown (mvT hZ (hw _ (List.mem_of_getElem? (i := 4) rfl))) (g := (mkF m 1 #[.val (.int p78), .unset] [(.int p78)])) rfl (hb hby d1_1) _ ?_
    show Steps p.tables e below (s₁.setTop (mkF m 3 #[.val (.int p78), .unset] [(.int (2147483647 : Int32)), (.int p78)])) _
    refine XS.iand X0.here hx rfl (hb hby d1_3) rfl ?_
    show Steps p.tables e below (s₁.setTop (mkF m 4 #[.val (.int p78), .unset] [(.int (p78 &&& (2147483647 : Int32)))])) _
    refine XS.bipush X0.here hx rfl (hb hby d1_4) ?_
    show Steps p.tables e below (s₁.setTop (mkF m 6 #[.val (.int p78), .unset] [(.int (7 : Int32)), (.int (p78 &&& (2147483647 : Int32)))])) _
    refine iremM X0 hx rfl (hb hby d1_6) rfl (by decide) ?_
    show Steps p.tables e below (s₁.setTop (mkF m 7 #[.val (.int p78), .unset] [(.int ((p78 &&& (2147483647 : Int32)) % (7 : Int32)))])) _
    refine XS.istoreN X0.here hx rfl (hb hby d1_7) rfl (l' := #[.val (.int p78), .val (.int ((p78 &&& (2147483647 : Int32)) % (7 : Int32)))]) rfl ?_
    show Steps p.tables e below (s₁.setTop (mkF m 8 #[.val (.int p78), .val (.int ((p78 &&& (2147483647 : Int32)) % (7 : Int32)))] [])) _
    refine XS.iloadN X0.here hx rfl (hb hby d1_8) rfl ?_
    show Steps p.tables e below (s₁.setTop (mkF m 9 #[.val (.int p78), .val (.int ((p78 &&& (2147483647 : Int32)) % (7 : Int32)))] [(.int ((p78 &&& (2147483647 : Int32)) % (7 : Int32)))])) _
    refine XS.ifYes X0.here hx rfl (pc0 := 9) (pc' := 16) rfl (hb hby d1_9) rfl ((if0 _ _).trans (feq H0).2) (by decide) (by decide) ?_
    show Steps p.tables e below (s₁.setTop (mkF m 16 #[.val (.int p78), .val (.int ((p78 &&& (2147483647 : Int32)) % (7 : Int32)))] [])) _
    refine XS.iloadN X0.here hx rfl (hb hby d1_16) rfl ?_
    show Steps p.tables e below (s₁.setTop (mkF m 17 #[.val (.int p78), .val (.int ((p78 &&& (2147483647 : Int32)) % (7 : Int32)))] [(.int ((p78 &&& (2147483647 : Int32)) % (7 : Int32)))])) _
    refine XS.iconst X0.here hx rfl (hb hby d1_17) ?_
    show Steps p.tables e below (s₁.setTop (mkF m 18 #[.val (.int p78), .val (.int ((p78 &&& (2147483647 : Int32)) % (7 : Int32)))] [(.int (1 : Int32)), (.int ((p78 &&& (2147483647 : Int32)) % (7 : Int32)))])) _
    refine XS.icmpNo X0.here hx rfl (hb hby d1_18) rfl (teq H1).2 ?_
    show Steps p.tables e below (s₁.setTop (mkF m 21 #[.val (.int p78), .val (.int ((p78 &&& (2147483647 : Int32)) % (7 : Int32)))] [])) _
    refine st80 _ ?_
    show Steps p.tables e below (T80.setTop (mkF m 24 #[.val (.int p78), .val (.int ((p78 &&& (2147483647 : Int32)) % (7 : Int32)))] [(.ref w79)])) _
    jvm_step X80.here [X80.here.top, hx, (hb hby d1_24), X80.method', Bd.returns, Value.isRef, FieldType.isReference]
    first | (intro acts; rw [hr _ acts rfl rfl rfl]) | rw [hr _ _ rfl rfl rfl]
    exact Steps.refl _
  · show OQp (some (.ref w79)) h0 n0 _ T80.heap _
    rw [e80]
    exact ⟨rfl, N0, rfl⟩
set_option maxRecDepth 65536 in
set_option maxHeartbeats 40000000 in
theorem r0_2 (l : Launch) (Z : State) (a0 : Array Value) (hw : ∀ d ∈ tables_1, d.before a0 Z = true) (p77 : Int32) (w82 : Addr) (w134 : Addr) (w135 : Addr) (h0 : Heap) (n0 : Nat) (Z0 : n0 ≤ h0.size) (H0 : ¬ (((p77 &&& (2147483647 : Int32)) % (7 : Int32)) = (0 : Int32))) (H1 : ((p77 &&& (2147483647 : Int32)) % (7 : Int32)) = (1 : Int32)) (H2 : Sta Z h0 "com/example/transaction_scopes/transactionscopes/Propagation" "SUPPORTS" "Lcom/example/transaction_scopes/transactionscopes/Propagation;" (.ref w82)) (H3 : Exa Z h0 w82 "com/example/transaction_scopes/transactionscopes/Propagation") (H4 : Sta Z h0 "com/example/transaction_scopes/transactionscopes/Isolation" "DEFAULT" "Lcom/example/transaction_scopes/transactionscopes/Isolation;" (.ref w134)) (H5 : Sta Z h0 "java/util/ImmutableCollections" "EMPTY_MAP" "Ljava/util/ImmutableCollections$MapN;" (.ref w135)) :
    OMetS l Z x code maxLocals ret tables_1 room_1 h0 #[(.int p77)] (OQl (some (.int (1 : Int32))) n0) := by
  refine MetFree.of_bodySF (plainFor_of_name pn_com_example_transaction_scopes_transactionscopes_ScopeSettingsOfPinLaw) hisR ?_
  intro p e s m args below meth c s₁ Bd hml0 hP hK
  obtain ⟨rfl, hZ, hh⟩ := hP
  have hx := Bd.exec
  have hby := Bd.bytes
  have hml : c.maxLocals = 3 := hml0
  have hown : s.vm.findClass "com/example/transaction_scopes/transactionscopes/ScopeSettingsOfPinLaw" = some m.cls := findClass_of_methodNamed Bd.named
  have hnm := (name_of_methodNamed Bd.named Bd.method).1
  have X0 : Stand p l e room_1 s m #[(.int p77)] below meth c s₁ [] 0 0 := Stand.of_body Bd
  have e0 : s₁.heap = h0 := by rw [← hh, Bd.state]; rfl
  have N0 := Fr.nil n0
  have pre0 : ∀ t, Steps p.tables e below (s₁.setTop (mkF m 0 #[.val (.int p77), .unset, .unset] [])) t → Steps p.tables e below (s₁.setTop (entryFrame m #[(.int p77)] maxLocals)) t := fun t k => castTop (ef_0_v m p77) k
  obtain ⟨_, _, ⟨T81, L81, k81, n81⟩, -, X81, ⟨Lc81, hQ81, l81, y81, z81⟩, st81⟩ := Jvm.LawKit.callS X0 hx (y := (⟨"com/example/transaction_scopes/transactionscopes/ScopeSettingsOfPinLaw", "pick", "(I)Lcom/example/transaction_scopes/transactionscopes/Propagation;"⟩ : MethodName)) hown (mvT hZ (hw _ (List.mem_of_getElem? (i := 0) rfl))) (mvT hZ (hw _ (List.mem_of_getElem? (i := 1) rfl))) (mvT hZ (hw _ (List.mem_of_getElem? (i := 2) rfl))) (mvT hZ (hw _ (List.mem_of_getElem? (i := 3) rfl))) (by decide) (backOf (W := 0) (r1_2 l Z a0 hw p77 w82 h0 n0 Z0 H0 H1 H2) hZ (hw _ (List.mem_of_getElem? (i := 3) rfl)) (hw _ (List.mem_of_getElem? (i := 2) rfl)) (by decide) (by decide)) (g := (mkF m 1 #[.val (.int p77), .unset, .unset] [(.int p77)])) rfl (by rw [hml]; rfl) (argsL := [(.int p77)]) (rest := []) (lenOf pd_0 rfl) rfl (by show 2 * 0 + _ ≤ _; exact Nat.le_of_eq rfl) (hb hby at_1) (fun _ _ => ⟨rfl, e0, (by decide : 0 + 0 ≤ _), (by decide : 0 + 0 ≤ _)⟩)
  dsimp only [Pt.U, Pt.locs, Pt.cells, Pt.slots] at X81 l81 y81 z81 st81 hQ81
  subst l81 y81 z81
  obtain ⟨rfl, N81q, e81⟩ := hQ81
  have N81 := Fr.app N0 N81q
  obtain ⟨_, _, ⟨T133, L133, k133, n133⟩, -, X133, hs133, hg133, ⟨Lc133, hQ133, l133, y133, z133⟩, st133⟩ := callSS X81 hx (y := (⟨"com/example/transaction_scopes/transactionscopes/ScopeSettings", "of", "(Lcom/example/transaction_scopes/transactionscopes/Propagation;)Lcom/example/transaction_scopes/transactionscopes/ScopeSettings;"⟩ : MethodName)) hown (mvT hZ (hw _ (List.mem_of_getElem? (i := 8) rfl))) (mvT hZ (hw _ (List.mem_of_getElem? (i := 9) rfl))) (mvT hZ (hw _ (List.mem_of_getElem? (i := 10) rfl))) (mvT hZ (hw _ (List.mem_of_getElem? (i := 11) rfl))) (by decide) (backOfS (W := 0) (r2_1 l Z a0 hw w82 w134 w135 h0 n0 Z0 H3 H4 H5) hZ (hw _ (List.mem_of_getElem? (i := 11) rfl)) (hw _ (List.mem_of_getElem? (i := 10) rfl)) (by decide) (by decide)) (g := (mkF m 6 #[.val (.int p77), .val (.ref w82), .unset] [(.ref w82)])) rfl (by rw [hml]; rfl) (argsL := [(.ref w82)]) (rest := []) (lenOf pd_4 rfl) rfl (by show 2 * 0 + _ ≤ _; exact Nat.le_of_eq rfl) (hb hby at_6) (fun _ _ => ⟨rfl, e81, (by decide : 0 + 3 ≤ _), (by decide : 0 + 53 ≤ _)⟩)
  dsimp only [Pt.U, Pt.locs, Pt.cells, Pt.slots] at X133 l133 y133 z133 st133 hQ133 hs133 hg133
  subst l133 y133 z133
  obtain ⟨N133q, b133_0, rfl, ge_b133_0, K133, o133_0, o133_1, o133_2, o133_3, o133_4, o133_5⟩ := hQ133
  have N133 := Fr.app N81 N133q
  have KC133 := KSx.trans (KSx.refl h0 []) K133 ks0
  have hS133 : s.Since T133.vm T133.heap.size := hs133
  have hZ133 : Z.Warmed39 (s.setVm T133.vm).vm := State.Warmed39.trans (t := s) hZ hs133.1
  have ho133 : (s.setVm T133.vm).vm.findClass "com/example/transaction_scopes/transactionscopes/ScopeSettingsOfPinLaw" = some m.cls := by rw [show (s.setVm T133.vm).vm = T133.vm from rfl, hs133.1.alike.findClass]; exact hown
  replace X133 : Stand p l e room_1 (s.setVm T133.vm) m #[(.int p77)] below meth c T133 _ _ _ := X133
  have Z133 : n0 ≤ T133.heap.size := Nat.le_trans Z0 K133.1
  obtain ⟨cq139, kq139, q139a, q139b, q139c⟩ := isOf hZ133 rfl o133_0
  obtain ⟨_, _, ⟨T139, L139, k139, n139⟩, -, X139, ⟨Lc139, hQ139, l139, y139, z139⟩, st139⟩ := X133.virtualBack hx (y := (⟨"com/example/transaction_scopes/transactionscopes/ScopeSettings", "propagation", "()Lcom/example/transaction_scopes/transactionscopes/Propagation;"⟩ : MethodName)) (z := (⟨"com/example/transaction_scopes/transactionscopes/ScopeSettings", "propagation", "()Lcom/example/transaction_scopes/transactionscopes/Propagation;"⟩ : MethodName)) ho133 (mvT hZ133 (hw _ (List.mem_of_getElem? (i := 53) rfl))) (mvT hZ133 (hw _ (List.mem_of_getElem? (i := 54) rfl))) (notFace_of_selects (args := #[]) (mvT hZ133 (hw _ (List.mem_of_getElem? (i := 56) rfl)))) (mvT hZ133 (hw _ (List.mem_of_getElem? (i := 56) rfl))) (mvT hZ133 (hw _ (List.mem_of_getElem? (i := 55) rfl))) (by decide) (backOf (W := 0) (r7_1 l Z a0 hw b133_0 w82 T133.heap n0 Z133 o133_1) hZ133 (hw _ (List.mem_of_getElem? (i := 57) rfl)) (hw _ (List.mem_of_getElem? (i := 10) rfl)) (by decide) (by decide)) q139a q139c (g := (mkF m 17 #[.val (.int p77), .val (.ref w82), .val (.ref b133_0)] [(.ref b133_0)])) rfl (by rw [hml]; rfl) (Steps.refl _) (argsL := []) (rest := []) (lenOf pd_5 rfl) rfl (by show 2 * 0 + _ ≤ _; exact Nat.le_of_eq rfl) (hb hby at_17) (fun _ _ => ⟨rfl, rfl, (by decide : 3 + 0 ≤ _), (by decide : 53 + 0 ≤ _)⟩)
  dsimp only [Pt.U, Pt.locs, Pt.cells, Pt.slots] at X139 l139 y139 z139 st139 hQ139
  subst l139 y139 z139
  obtain ⟨rfl, N139q, e139⟩ := hQ139
  have N139 := Fr.app N133 N139q
  obtain ⟨cq143, kq143, q143a, q143b, q143c⟩ := isOf hZ133 e139 o133_0
  obtain ⟨_, _, ⟨T143, L143, k143, n143⟩, -, X143, ⟨Lc143, hQ143, l143, y143, z143⟩, st143⟩ := X139.virtualBack hx (y := (⟨"com/example/transaction_scopes/transactionscopes/ScopeSettings", "isolation", "()Lcom/example/transaction_scopes/transactionscopes/Isolation;"⟩ : MethodName)) (z := (⟨"com/example/transaction_scopes/transactionscopes/ScopeSettings", "isolation", "()Lcom/example/transaction_scopes/transactionscopes/Isolation;"⟩ : MethodName)) ho133 (mvT hZ133 (hw _ (List.mem_of_getElem? (i := 58) rfl))) (mvT hZ133 (hw _ (List.mem_of_getElem? (i := 59) rfl))) (notFace_of_selects (args := #[]) (mvT hZ133 (hw _ (List.mem_of_getElem? (i := 61) rfl)))) (mvT hZ133 (hw _ (List.mem_of_getElem? (i := 61) rfl))) (mvT hZ133 (hw _ (List.mem_of_getElem? (i := 60) rfl))) (by decide) (backOf (W := 0) (r8_1 l Z a0 hw b133_0 w134 T133.heap n0 Z133 o133_2) hZ133 (hw _ (List.mem_of_getElem? (i := 62) rfl)) (hw _ (List.mem_of_getElem? (i := 10) rfl)) (by decide) (by decide)) q143a q143c (g := (mkF m 25 #[.val (.int p77), .val (.ref w82), .val (.ref b133_0)] [(.ref b133_0)])) rfl (by rw [hml]; rfl) (Steps.refl _) (argsL := []) (rest := []) (lenOf pd_6 rfl) rfl (by show 2 * 0 + _ ≤ _; exact Nat.le_of_eq rfl) (hb hby at_25) (fun _ _ => ⟨rfl, e139, (by decide : 3 + 0 ≤ _), (by decide : 53 + 0 ≤ _)⟩)
  dsimp only [Pt.U, Pt.locs, Pt.cells, Pt.slots] at X143 l143 y143 z143 st143 hQ143
  subst l143 y143 z143
  obtain ⟨rfl, N143q, e143⟩ := hQ143
  have N143 := Fr.app N139 N143q
  have f144 := (H4.ks K133)
  obtain ⟨T145, X145, e145, st145⟩ := getS2 X143 hx hZ133 ho133 (host := "") (Or.inl (hw _ (List.mem_of_getElem? (i := 63) rfl))) Via.refl e143 f144 (g := (mkF m 28 #[.val (.int p77), .val (.ref w82), .val (.ref b133_0)] [(.ref w134)])) rfl (hb hby at_28)
  obtain ⟨cq149, kq149, q149a, q149b, q149c⟩ := isOf hZ133 e145 o133_0
  obtain ⟨_, _, ⟨T149, L149, k149, n149⟩, -, X149, ⟨Lc149, hQ149, l149, y149, z149⟩, st149⟩ := X145.virtualBack hx (y := (⟨"com/example/transaction_scopes/transactionscopes/ScopeSettings", "isReadOnly", "()Z"⟩ : MethodName)) (z := (⟨"com/example/transaction_scopes/transactionscopes/ScopeSettings", "isReadOnly", "()Z"⟩ : MethodName)) ho133 (mvT hZ133 (hw _ (List.mem_of_getElem? (i := 64) rfl))) (mvT hZ133 (hw _ (List.mem_of_getElem? (i := 65) rfl))) (notFace_of_selects (args := #[]) (mvT hZ133 (hw _ (List.mem_of_getElem? (i := 67) rfl)))) (mvT hZ133 (hw _ (List.mem_of_getElem? (i := 67) rfl))) (mvT hZ133 (hw _ (List.mem_of_getElem? (i := 66) rfl))) (by decide) (backOf (W := 0) (r9_1 l Z a0 hw b133_0 (0 : Int32) T133.heap n0 Z133 o133_3 rfl) hZ133 (hw _ (List.mem_of_getElem? (i := 68) rfl)) (hw _ (List.mem_of_getElem? (i := 10) rfl)) (by decide) (by decide)) q149a q149c (g := (mkF m 35 #[.val (.int p77), .val (.ref w82), .val (.ref b133_0)] [(.ref b133_0)])) rfl (by rw [hml]; rfl) (Steps.refl _) (argsL := []) (rest := []) (lenOf pd_7 rfl) rfl (by show 2 * 0 + _ ≤ _; exact Nat.le_of_eq rfl) (hb hby at_35) (fun _ _ => ⟨rfl, e145, (by decide : 3 + 0 ≤ _), (by decide : 53 + 0 ≤ _)⟩)
  dsimp only [Pt.U, Pt.locs, Pt.cells, Pt.slots] at X149 l149 y149 z149 st149 hQ149
  subst l149 y149 z149
  obtain ⟨rfl, N149q, e149⟩ := hQ149
  have N149 := Fr.app N143 N149q
  obtain ⟨cq152, kq152, q152a, q152b, q152c⟩ := isOf hZ133 e149 o133_0
  obtain ⟨_, _, ⟨T152, L152, k152, n152⟩, -, X152, ⟨Lc152, hQ152, l152, y152, z152⟩, st152⟩ := X149.virtualBack hx (y := (⟨"com/example/transaction_scopes/transactionscopes/ScopeSettings", "timeout", "()Ljava/time/Duration;"⟩ : MethodName)) (z := (⟨"com/example/transaction_scopes/transactionscopes/ScopeSettings", "timeout", "()Ljava/time/Duration;"⟩ : MethodName)) ho133 (mvT hZ133 (hw _ (List.mem_of_getElem? (i := 69) rfl))) (mvT hZ133 (hw _ (List.mem_of_getElem? (i := 70) rfl))) (notFace_of_selects (args := #[]) (mvT hZ133 (hw _ (List.mem_of_getElem? (i := 72) rfl)))) (mvT hZ133 (hw _ (List.mem_of_getElem? (i := 72) rfl))) (mvT hZ133 (hw _ (List.mem_of_getElem? (i := 71) rfl))) (by decide) (backOf (W := 0) (r10_1 l Z a0 hw b133_0 T133.heap n0 Z133 o133_4) hZ133 (hw _ (List.mem_of_getElem? (i := 73) rfl)) (hw _ (List.mem_of_getElem? (i := 10) rfl)) (by decide) (by decide)) q152a q152c (g := (mkF m 42 #[.val (.int p77), .val (.ref w82), .val (.ref b133_0)] [(.ref b133_0)])) rfl (by rw [hml]; rfl) (Steps.refl _) (argsL := []) (rest := []) (lenOf pd_8 rfl) rfl (by show 2 * 0 + _ ≤ _; exact Nat.le_of_eq rfl) (hb hby at_42) (fun _ _ => ⟨rfl, e149, (by decide : 3 + 0 ≤ _), (by decide : 53 + 0 ≤ _)⟩)
  dsimp only [Pt.U, Pt.locs, Pt.cells, Pt.slots] at X152 l152 y152 z152 st152 hQ152
  subst l152 y152 z152
  obtain ⟨rfl, N152q, e152⟩ := hQ152
  have N152 := Fr.app N149 N152q
  obtain ⟨fs, hr, hrun, hended, hR1, hR2, hR3, hR4⟩ := X152.leaveW (s := s) hS133 (by rw [e152]; exact (Nat.le_refl _)) (v := some (.int (1 : Int32))) (fun h => by rw [Bd.returns] at h; cases h)
  refine ⟨_, _, pre0 _ ?_, hrun, hended, _, _, rfl, ?_, hR1, hR2, hR3, hR4.mono (by decide) (by decide)⟩
  · show Steps p.tables e below (s₁.setTop (mkF m 0 #[.val (.int p77), .unset, .unset] [])) _
    refine XS.iloadN X0.here hx rfl (hb hby at_0) rfl ?_
    show Steps p.tables e below (s₁.setTop (mkF m 1 #[.val (.int p77), .unset, .unset] [(.int p77)])) _
    refine st81 _ ?_
    show Steps p.tables e below (T81.setTop (mkF m 4 #[.val (.int p77), .unset, .unset] [(.ref w82)])) _
    refine XS.astoreN X81.here hx rfl (hb hby at_4) rfl rfl (l' := #[.val (.int p77), .val (.ref w82), .unset]) rfl ?_
    show Steps p.tables e below (T81.setTop (mkF m 5 #[.val (.int p77), .val (.ref w82), .unset] [])) _
    refine XS.aloadN X81.here hx rfl (hb hby at_5) rfl rfl ?_
    show Steps p.tables e below (T81.setTop (mkF m 6 #[.val (.int p77), .val (.ref w82), .unset] [(.ref w82)])) _
    refine st133.trans ?_
    show Steps p.tables e below (T133.setTop (mkF m 9 #[.val (.int p77), .val (.ref w82), .unset] [(.ref b133_0)])) _
    refine XS.astoreN X133.here hx rfl (hb hby at_9) rfl rfl (l' := #[.val (.int p77), .val (.ref w82), .val (.ref b133_0)]) rfl ?_
    show Steps p.tables e below (T133.setTop (mkF m 10 #[.val (.int p77), .val (.ref w82), .val (.ref b133_0)] [])) _
    refine XS.aloadN X133.here hx rfl (hb hby at_10) rfl rfl ?_
    show Steps p.tables e below (T133.setTop (mkF m 11 #[.val (.int p77), .val (.ref w82), .val (.ref b133_0)] [(.ref b133_0)])) _
    refine XS.ifnonnullYes X133.here hx rfl (pc0 := 11) (pc' := 16) rfl (hb hby at_11) rfl (by decide) (by decide) ?_
    show Steps p.tables e below (T133.setTop (mkF m 16 #[.val (.int p77), .val (.ref w82), .val (.ref b133_0)] [])) _
    refine XS.aloadN X133.here hx rfl (hb hby at_16) rfl rfl ?_
    show Steps p.tables e below (T133.setTop (mkF m 17 #[.val (.int p77), .val (.ref w82), .val (.ref b133_0)] [(.ref b133_0)])) _
    refine st139.trans ?_
    show Steps p.tables e below (T139.setTop (mkF m 20 #[.val (.int p77), .val (.ref w82), .val (.ref b133_0)] [(.ref w82)])) _
    refine XS.aloadN X139.here hx rfl (hb hby at_20) rfl rfl ?_
    show Steps p.tables e below (T139.setTop (mkF m 21 #[.val (.int p77), .val (.ref w82), .val (.ref b133_0)] [(.ref w82), (.ref w82)])) _
    refine Jvm.RoadKit.acmp (g := (mkF m 21 #[.val (.int p77), .val (.ref w82), .val (.ref b133_0)] [(.ref w82), (.ref w82)])) X139 hx rfl rfl rfl (pc0 := 21) (pc' := 24) (same := true) rfl (hb hby at_21) rfl (decide_eq_true rfl) (by decide) (by decide) ?_
    show Steps p.tables e below (T139.setTop (mkF m 24 #[.val (.int p77), .val (.ref w82), .val (.ref b133_0)] [])) _
    refine XS.aloadN X139.here hx rfl (hb hby at_24) rfl rfl ?_
    show Steps p.tables e below (T139.setTop (mkF m 25 #[.val (.int p77), .val (.ref w82), .val (.ref b133_0)] [(.ref b133_0)])) _
    refine st143.trans ?_
    show Steps p.tables e below (T143.setTop (mkF m 28 #[.val (.int p77), .val (.ref w82), .val (.ref b133_0)] [(.ref w134)])) _
    refine st145 _ ?_
    show Steps p.tables e below (T145.setTop (mkF m 31 #[.val (.int p77), .val (.ref w82), .val (.ref b133_0)] [(.ref w134), (.ref w134)])) _
    refine Jvm.RoadKit.acmp (g := (mkF m 31 #[.val (.int p77), .val (.ref w82), .val (.ref b133_0)] [(.ref w134), (.ref w134)])) X145 hx rfl rfl rfl (pc0 := 31) (pc' := 34) (same := true) rfl (hb hby at_31) rfl (decide_eq_true rfl) (by decide) (by decide) ?_
    show Steps p.tables e below (T145.setTop (mkF m 34 #[.val (.int p77), .val (.ref w82), .val (.ref b133_0)] [])) _
    refine XS.aloadN X145.here hx rfl (hb hby at_34) rfl rfl ?_
    show Steps p.tables e below (T145.setTop (mkF m 35 #[.val (.int p77), .val (.ref w82), .val (.ref b133_0)] [(.ref b133_0)])) _
    refine st149.trans ?_
    show Steps p.tables e below (T149.setTop (mkF m 38 #[.val (.int p77), .val (.ref w82), .val (.ref b133_0)] [(.int (0 : Int32))])) _
    refine XS.ifNo X149.here hx rfl (hb hby at_38) rfl ((if0 _ _).trans (teq (rfl : (0 : Int32) = (0 : Int32))).2) ?_
    show Steps p.tables e below (T149.setTop (mkF m 41 #[.val (.int p77), .val (.ref w82), .val (.ref b133_0)] [])) _
    refine XS.aloadN X149.here hx rfl (hb hby at_41) rfl rfl ?_
    show Steps p.tables e below (T149.setTop (mkF m 42 #[.val (.int p77), .val (.ref w82), .val (.ref b133_0)] [(.ref b133_0)])) _
    refine st152.trans ?_
    show Steps p.tables e below (T152.setTop (mkF m 45 #[.val (.int p77), .val (.ref w82), .val (.ref b133_0)] [.null])) _
    refine XS.ifnonnullNo X152.here hx rfl (hb hby at_45) rfl ?_
    show Steps p.tables e below (T152.setTop (mkF m 48 #[.val (.int p77), .val (.ref w82), .val (.ref b133_0)] [])) _
    refine XS.iconst X152.here hx rfl (hb hby at_48) ?_
    show Steps p.tables e below (T152.setTop (mkF m 49 #[.val (.int p77), .val (.ref w82), .val (.ref b133_0)] [(.int (1 : Int32))])) _
    refine XS.goto X152.here hx rfl (pc0 := 49) (pc' := 53) rfl (hb hby at_49) (by decide) (by decide) ?_
    show Steps p.tables e below (T152.setTop (mkF m 53 #[.val (.int p77), .val (.ref w82), .val (.ref b133_0)] [(.int (1 : Int32))])) _
    exact retN X152 hx (t := .boolean) Bd.returns (by simp) (hb hby at_53) hr
  · show OQl (some (.int (1 : Int32))) n0 _ T152.heap _
    exact ⟨rfl, N152⟩
theorem d1_25 : decode method_2_code 25 = .ok (.iload_n 1, 1) := by decide +kernel
theorem d1_26 : decode method_2_code 26 = .ok (.iconst 2, 1) := by decide +kernel
theorem d1_27 : decode method_2_code 27 = .ok (.if_icmp .ne 7, 3) := by decide +kernel
theorem d1_30 : decode method_2_code 30 = .ok (.getstatic 17, 3) := by decide +kernel
theorem d1_33 : decode method_2_code 33 = .ok (.areturn, 1) := by decide +kernel
set_option maxRecDepth 65536 in
set_option maxHeartbeats 40000000 in
theorem r1_3 (l : Launch) (Z : State) (a0 : Array Value) (hw : ∀ d ∈ tables_1, d.before a0 Z = true) (p154 : Int32) (w155 : Addr) (h0 : Heap) (n0 : Nat) (Z0 : n0 ≤ h0.size) (H0 : ¬ (((p154 &&& (2147483647 : Int32)) % (7 : Int32)) = (0 : Int32))) (H1 : ¬ (((p154 &&& (2147483647 : Int32)) % (7 : Int32)) = (1 : Int32))) (H2 : ((p154 &&& (2147483647 : Int32)) % (7 : Int32)) = (2 : Int32)) (H3 : Sta Z h0 "com/example/transaction_scopes/transactionscopes/Propagation" "MANDATORY" "Lcom/example/transaction_scopes/transactionscopes/Propagation;" (.ref w155)) :
    OMet l Z (⟨"com/example/transaction_scopes/transactionscopes/ScopeSettingsOfPinLaw", "pick", "(I)Lcom/example/transaction_scopes/transactionscopes/Propagation;"⟩ : MethodName) method_2_code 2 (some (.object "com/example/transaction_scopes/transactionscopes/Propagation")) [] ({ frames := 0, cells := 0, slots := 0, locals := 0 } : Room) h0 #[(.int p154)] (OQp (some (.ref w155)) h0 n0) := by
  refine MetFree.of_bodySF (plainFor_of_name pn_com_example_transaction_scopes_transactionscopes_ScopeSettingsOfPinLaw) hisR ?_
  intro p e s m args below meth c s₁ Bd hml0 hP hK
  obtain ⟨rfl, hZ, hh⟩ := hP
  have hx := Bd.exec
  have hby := Bd.bytes
  have hml : c.maxLocals = 2 := hml0
  have hown : s.vm.findClass "com/example/transaction_scopes/transactionscopes/ScopeSettingsOfPinLaw" = some m.cls := findClass_of_methodNamed Bd.named
  have hnm := (name_of_methodNamed Bd.named Bd.method).1
  have X0 : Stand p l e ({ frames := 0, cells := 0, slots := 0, locals := 0 } : Room) s m #[(.int p154)] below meth c s₁ [] 0 0 := Stand.of_body Bd
  have e0 : s₁.heap = h0 := by rw [← hh, Bd.state]; rfl
  have N0 := Fr.nil n0
  have pre0 : ∀ t, Steps p.tables e below (s₁.setTop (mkF m 0 #[.val (.int p154), .unset] [])) t → Steps p.tables e below (s₁.setTop (entryFrame m #[(.int p154)] 2)) t := fun t k => castTop (ef_1_v m p154) k
  obtain ⟨T156, X156, e156, st156⟩ := getS2 X0 hx hZ hown (host := "") (Or.inl (hw _ (List.mem_of_getElem? (i := 82) rfl))) Via.refl e0 H3 (g := (mkF m 30 #[.val (.int p154), .val (.int ((p154 &&& (2147483647 : Int32)) % (7 : Int32)))] [])) rfl (hb hby d1_30)
  obtain ⟨fs, hr, hrun, hended, hW, hsame⟩ := X156.leave (v := some (.ref w155)) (fun h => by rw [Bd.returns] at h; cases h)
  refine ⟨_, _, pre0 _ ?_, hrun, hended, _, _, rfl, ?_, ⟨_, rfl⟩, hW, hsame.mono (by decide) (by decide)⟩
  · show Steps p.tables e below (s₁.setTop (mkF m 0 #[.val (.int p154), .unset] [])) _
    refine XS.iloadN X0.here hx rfl (hb hby d1_0) rfl ?_
    show Steps p.tables e below (s₁.setTop (mkF m 1 #[.val (.int p154), .unset] [(.int p154)])) _
    refine X0.ldcInt hx hown (mvT hZ (hw _ (List.mem_of_getElem? (i := 4) rfl))) (g := (mkF m 1 #[.val (.int p154), .unset] [(.int p154)])) rfl (hb hby d1_1) _ ?_
    show Steps p.tables e below (s₁.setTop (mkF m 3 #[.val (.int p154), .unset] [(.int (2147483647 : Int32)), (.int p154)])) _
    refine XS.iand X0.here hx rfl (hb hby d1_3) rfl ?_
    show Steps p.tables e below (s₁.setTop (mkF m 4 #[.val (.int p154), .unset] [(.int (p154 &&& (2147483647 : Int32)))])) _
    refine XS.bipush X0.here hx rfl (hb hby d1_4) ?_
    show Steps p.tables e below (s₁.setTop (mkF m 6 #[.val (.int p154), .unset] [(.int (7 : Int32)), (.int (p154 &&& (2147483647 : Int32)))])) _
    refine iremM X0 hx rfl (hb hby d1_6) rfl (by decide) ?_
    show Steps p.tables e below (s₁.setTop (mkF m 7 #[.val (.int p154), .unset] [(.int ((p154 &&& (2147483647 : Int32)) % (7 : Int32)))])) _
    refine XS.istoreN X0.here hx rfl (hb hby d1_7) rfl (l' := #[.val (.int p154), .val (.int ((p154 &&& (2147483647 : Int32)) % (7 : Int32)))]) rfl ?_
    show Steps p.tables e below (s₁.setTop (mkF m 8 #[.val (.int p154), .val (.int ((p154 &&& (2147483647 : Int32)) % (7 : Int32)))] [])) _
    refine XS.iloadN X0.here hx rfl (hb hby d1_8) rfl ?_
    show Steps p.tables e below (s₁.setTop (mkF m 9 #[.val (.int p154), .val (.int ((p154 &&& (2147483647 : Int32)) % (7 : Int32)))] [(.int ((p154 &&& (2147483647 : Int32)) % (7 : Int32)))])) _
    refine XS.ifYes X0.here hx rfl (pc0 := 9) (pc' := 16) rfl (hb hby d1_9) rfl ((if0 _ _).trans (feq H0).2) (by decide) (by decide) ?_
    show Steps p.tables e below (s₁.setTop (mkF m 16 #[.val (.int p154), .val (.int ((p154 &&& (2147483647 : Int32)) % (7 : Int32)))] [])) _
    refine XS.iloadN X0.here hx rfl (hb hby d1_16) rfl ?_
    show Steps p.tables e below (s₁.setTop (mkF m 17 #[.val (.int p154), .val (.int ((p154 &&& (2147483647 : Int32)) % (7 : Int32)))] [(.int ((p154 &&& (2147483647 : Int32)) % (7 : Int32)))])) _
    refine XS.iconst X0.here hx rfl (hb hby d1_17) ?_
    show Steps p.tables e below (s₁.setTop (mkF m 18 #[.val (.int p154), .val (.int ((p154 &&& (2147483647 : Int32)) % (7 : Int32)))] [(.int (1 : Int32)), (.int ((p154 &&& (2147483647 : Int32)) % (7 : Int32)))])) _
    refine XS.icmpYes X0.here hx rfl (pc0 := 18) (pc' := 25) rfl (hb hby d1_18) rfl (feq H1).2 (by decide) (by decide) ?_
    show Steps p.tables e below (s₁.setTop (mkF m 25 #[.val (.int p154), .val (.int ((p154 &&& (2147483647 : Int32)) % (7 : Int32)))] [])) _
    refine XS.iloadN X0.here hx rfl (hb hby d1_25) rfl ?_
    show Steps p.tables e below (s₁.setTop (mkF m 26 #[.val (.int p154), .val (.int ((p154 &&& (2147483647 : Int32)) % (7 : Int32)))] [(.int ((p154 &&& (2147483647 : Int32)) % (7 : Int32)))])) _
    refine XS.iconst X0.here hx rfl (hb hby d1_26) ?_
    show Steps p.tables e below (s₁.setTop (mkF m 27 #[.val (.int p154), .val (.int ((p154 &&& (2147483647 : Int32)) % (7 : Int32)))] [(.int (2 : Int32)), (.int ((p154 &&& (2147483647 : Int32)) % (7 : Int32)))])) _
    refine XS.icmpNo X0.here hx rfl (hb hby d1_27) rfl (teq H2).2 ?_
    show Steps p.tables e below (s₁.setTop (mkF m 30 #[.val (.int p154), .val (.int ((p154 &&& (2147483647 : Int32)) % (7 : Int32)))] [])) _
    refine st156 _ ?_
    show Steps p.tables e below (T156.setTop (mkF m 33 #[.val (.int p154), .val (.int ((p154 &&& (2147483647 : Int32)) % (7 : Int32)))] [(.ref w155)])) _
    jvm_step X156.here [X156.here.top, hx, (hb hby d1_33), X156.method', Bd.returns, Value.isRef, FieldType.isReference]
    first | (intro acts; rw [hr _ acts rfl rfl rfl]) | rw [hr _ _ rfl rfl rfl]
    exact Steps.refl _
  · show OQp (some (.ref w155)) h0 n0 _ T156.heap _
    rw [e156]
    exact ⟨rfl, N0, rfl⟩
set_option maxRecDepth 65536 in
set_option maxHeartbeats 40000000 in
theorem r0_3 (l : Launch) (Z : State) (a0 : Array Value) (hw : ∀ d ∈ tables_1, d.before a0 Z = true) (p153 : Int32) (w158 : Addr) (w210 : Addr) (w211 : Addr) (h0 : Heap) (n0 : Nat) (Z0 : n0 ≤ h0.size) (H0 : ¬ (((p153 &&& (2147483647 : Int32)) % (7 : Int32)) = (0 : Int32))) (H1 : ¬ (((p153 &&& (2147483647 : Int32)) % (7 : Int32)) = (1 : Int32))) (H2 : ((p153 &&& (2147483647 : Int32)) % (7 : Int32)) = (2 : Int32)) (H3 : Sta Z h0 "com/example/transaction_scopes/transactionscopes/Propagation" "MANDATORY" "Lcom/example/transaction_scopes/transactionscopes/Propagation;" (.ref w158)) (H4 : Exa Z h0 w158 "com/example/transaction_scopes/transactionscopes/Propagation") (H5 : Sta Z h0 "com/example/transaction_scopes/transactionscopes/Isolation" "DEFAULT" "Lcom/example/transaction_scopes/transactionscopes/Isolation;" (.ref w210)) (H6 : Sta Z h0 "java/util/ImmutableCollections" "EMPTY_MAP" "Ljava/util/ImmutableCollections$MapN;" (.ref w211)) :
    OMetS l Z x code maxLocals ret tables_1 room_1 h0 #[(.int p153)] (OQl (some (.int (1 : Int32))) n0) := by
  refine MetFree.of_bodySF (plainFor_of_name pn_com_example_transaction_scopes_transactionscopes_ScopeSettingsOfPinLaw) hisR ?_
  intro p e s m args below meth c s₁ Bd hml0 hP hK
  obtain ⟨rfl, hZ, hh⟩ := hP
  have hx := Bd.exec
  have hby := Bd.bytes
  have hml : c.maxLocals = 3 := hml0
  have hown : s.vm.findClass "com/example/transaction_scopes/transactionscopes/ScopeSettingsOfPinLaw" = some m.cls := findClass_of_methodNamed Bd.named
  have hnm := (name_of_methodNamed Bd.named Bd.method).1
  have X0 : Stand p l e room_1 s m #[(.int p153)] below meth c s₁ [] 0 0 := Stand.of_body Bd
  have e0 : s₁.heap = h0 := by rw [← hh, Bd.state]; rfl
  have N0 := Fr.nil n0
  have pre0 : ∀ t, Steps p.tables e below (s₁.setTop (mkF m 0 #[.val (.int p153), .unset, .unset] [])) t → Steps p.tables e below (s₁.setTop (entryFrame m #[(.int p153)] maxLocals)) t := fun t k => castTop (ef_0_v m p153) k
  obtain ⟨_, _, ⟨T157, L157, k157, n157⟩, -, X157, ⟨Lc157, hQ157, l157, y157, z157⟩, st157⟩ := Jvm.LawKit.callS X0 hx (y := (⟨"com/example/transaction_scopes/transactionscopes/ScopeSettingsOfPinLaw", "pick", "(I)Lcom/example/transaction_scopes/transactionscopes/Propagation;"⟩ : MethodName)) hown (mvT hZ (hw _ (List.mem_of_getElem? (i := 0) rfl))) (mvT hZ (hw _ (List.mem_of_getElem? (i := 1) rfl))) (mvT hZ (hw _ (List.mem_of_getElem? (i := 2) rfl))) (mvT hZ (hw _ (List.mem_of_getElem? (i := 3) rfl))) (by decide) (backOf (W := 0) (r1_3 l Z a0 hw p153 w158 h0 n0 Z0 H0 H1 H2 H3) hZ (hw _ (List.mem_of_getElem? (i := 3) rfl)) (hw _ (List.mem_of_getElem? (i := 2) rfl)) (by decide) (by decide)) (g := (mkF m 1 #[.val (.int p153), .unset, .unset] [(.int p153)])) rfl (by rw [hml]; rfl) (argsL := [(.int p153)]) (rest := []) (lenOf pd_0 rfl) rfl (by show 2 * 0 + _ ≤ _; exact Nat.le_of_eq rfl) (hb hby at_1) (fun _ _ => ⟨rfl, e0, (by decide : 0 + 0 ≤ _), (by decide : 0 + 0 ≤ _)⟩)
  dsimp only [Pt.U, Pt.locs, Pt.cells, Pt.slots] at X157 l157 y157 z157 st157 hQ157
  subst l157 y157 z157
  obtain ⟨rfl, N157q, e157⟩ := hQ157
  have N157 := Fr.app N0 N157q
  obtain ⟨_, _, ⟨T209, L209, k209, n209⟩, -, X209, hs209, hg209, ⟨Lc209, hQ209, l209, y209, z209⟩, st209⟩ := callSS X157 hx (y := (⟨"com/example/transaction_scopes/transactionscopes/ScopeSettings", "of", "(Lcom/example/transaction_scopes/transactionscopes/Propagation;)Lcom/example/transaction_scopes/transactionscopes/ScopeSettings;"⟩ : MethodName)) hown (mvT hZ (hw _ (List.mem_of_getElem? (i := 8) rfl))) (mvT hZ (hw _ (List.mem_of_getElem? (i := 9) rfl))) (mvT hZ (hw _ (List.mem_of_getElem? (i := 10) rfl))) (mvT hZ (hw _ (List.mem_of_getElem? (i := 11) rfl))) (by decide) (backOfS (W := 0) (r2_1 l Z a0 hw w158 w210 w211 h0 n0 Z0 H4 H5 H6) hZ (hw _ (List.mem_of_getElem? (i := 11) rfl)) (hw _ (List.mem_of_getElem? (i := 10) rfl)) (by decide) (by decide)) (g := (mkF m 6 #[.val (.int p153), .val (.ref w158), .unset] [(.ref w158)])) rfl (by rw [hml]; rfl) (argsL := [(.ref w158)]) (rest := []) (lenOf pd_4 rfl) rfl (by show 2 * 0 + _ ≤ _; exact Nat.le_of_eq rfl) (hb hby at_6) (fun _ _ => ⟨rfl, e157, (by decide : 0 + 3 ≤ _), (by decide : 0 + 53 ≤ _)⟩)
  dsimp only [Pt.U, Pt.locs, Pt.cells, Pt.slots] at X209 l209 y209 z209 st209 hQ209 hs209 hg209
  subst l209 y209 z209
  obtain ⟨N209q, b209_0, rfl, ge_b209_0, K209, o209_0, o209_1, o209_2, o209_3, o209_4, o209_5⟩ := hQ209
  have N209 := Fr.app N157 N209q
  have KC209 := KSx.trans (KSx.refl h0 []) K209 ks0
  have hS209 : s.Since T209.vm T209.heap.size := hs209
  have hZ209 : Z.Warmed39 (s.setVm T209.vm).vm := State.Warmed39.trans (t := s) hZ hs209.1
  have ho209 : (s.setVm T209.vm).vm.findClass "com/example/transaction_scopes/transactionscopes/ScopeSettingsOfPinLaw" = some m.cls := by rw [show (s.setVm T209.vm).vm = T209.vm from rfl, hs209.1.alike.findClass]; exact hown
  replace X209 : Stand p l e room_1 (s.setVm T209.vm) m #[(.int p153)] below meth c T209 _ _ _ := X209
  have Z209 : n0 ≤ T209.heap.size := Nat.le_trans Z0 K209.1
  obtain ⟨cq215, kq215, q215a, q215b, q215c⟩ := isOf hZ209 rfl o209_0
  obtain ⟨_, _, ⟨T215, L215, k215, n215⟩, -, X215, ⟨Lc215, hQ215, l215, y215, z215⟩, st215⟩ := X209.virtualBack hx (y := (⟨"com/example/transaction_scopes/transactionscopes/ScopeSettings", "propagation", "()Lcom/example/transaction_scopes/transactionscopes/Propagation;"⟩ : MethodName)) (z := (⟨"com/example/transaction_scopes/transactionscopes/ScopeSettings", "propagation", "()Lcom/example/transaction_scopes/transactionscopes/Propagation;"⟩ : MethodName)) ho209 (mvT hZ209 (hw _ (List.mem_of_getElem? (i := 53) rfl))) (mvT hZ209 (hw _ (List.mem_of_getElem? (i := 54) rfl))) (notFace_of_selects (args := #[]) (mvT hZ209 (hw _ (List.mem_of_getElem? (i := 56) rfl)))) (mvT hZ209 (hw _ (List.mem_of_getElem? (i := 56) rfl))) (mvT hZ209 (hw _ (List.mem_of_getElem? (i := 55) rfl))) (by decide) (backOf (W := 0) (r7_1 l Z a0 hw b209_0 w158 T209.heap n0 Z209 o209_1) hZ209 (hw _ (List.mem_of_getElem? (i := 57) rfl)) (hw _ (List.mem_of_getElem? (i := 10) rfl)) (by decide) (by decide)) q215a q215c (g := (mkF m 17 #[.val (.int p153), .val (.ref w158), .val (.ref b209_0)] [(.ref b209_0)])) rfl (by rw [hml]; rfl) (Steps.refl _) (argsL := []) (rest := []) (lenOf pd_5 rfl) rfl (by show 2 * 0 + _ ≤ _; exact Nat.le_of_eq rfl) (hb hby at_17) (fun _ _ => ⟨rfl, rfl, (by decide : 3 + 0 ≤ _), (by decide : 53 + 0 ≤ _)⟩)
  dsimp only [Pt.U, Pt.locs, Pt.cells, Pt.slots] at X215 l215 y215 z215 st215 hQ215
  subst l215 y215 z215
  obtain ⟨rfl, N215q, e215⟩ := hQ215
  have N215 := Fr.app N209 N215q
  obtain ⟨cq219, kq219, q219a, q219b, q219c⟩ := isOf hZ209 e215 o209_0
  obtain ⟨_, _, ⟨T219, L219, k219, n219⟩, -, X219, ⟨Lc219, hQ219, l219, y219, z219⟩, st219⟩ := X215.virtualBack hx (y := (⟨"com/example/transaction_scopes/transactionscopes/ScopeSettings", "isolation", "()Lcom/example/transaction_scopes/transactionscopes/Isolation;"⟩ : MethodName)) (z := (⟨"com/example/transaction_scopes/transactionscopes/ScopeSettings", "isolation", "()Lcom/example/transaction_scopes/transactionscopes/Isolation;"⟩ : MethodName)) ho209 (mvT hZ209 (hw _ (List.mem_of_getElem? (i := 58) rfl))) (mvT hZ209 (hw _ (List.mem_of_getElem? (i := 59) rfl))) (notFace_of_selects (args := #[]) (mvT hZ209 (hw _ (List.mem_of_getElem? (i := 61) rfl)))) (mvT hZ209 (hw _ (List.mem_of_getElem? (i := 61) rfl))) (mvT hZ209 (hw _ (List.mem_of_getElem? (i := 60) rfl))) (by decide) (backOf (W := 0) (r8_1 l Z a0 hw b209_0 w210 T209.heap n0 Z209 o209_2) hZ209 (hw _ (List.mem_of_getElem? (i := 62) rfl)) (hw _ (List.mem_of_getElem? (i := 10) rfl)) (by decide) (by decide)) q219a q219c (g := (mkF m 25 #[.val (.int p153), .val (.ref w158), .val (.ref b209_0)] [(.ref b209_0)])) rfl (by rw [hml]; rfl) (Steps.refl _) (argsL := []) (rest := []) (lenOf pd_6 rfl) rfl (by show 2 * 0 + _ ≤ _; exact Nat.le_of_eq rfl) (hb hby at_25) (fun _ _ => ⟨rfl, e215, (by decide : 3 + 0 ≤ _), (by decide : 53 + 0 ≤ _)⟩)
  dsimp only [Pt.U, Pt.locs, Pt.cells, Pt.slots] at X219 l219 y219 z219 st219 hQ219
  subst l219 y219 z219
  obtain ⟨rfl, N219q, e219⟩ := hQ219
  have N219 := Fr.app N215 N219q
  have f220 := (H5.ks K209)
  obtain ⟨T221, X221, e221, st221⟩ := getS2 X219 hx hZ209 ho209 (host := "") (Or.inl (hw _ (List.mem_of_getElem? (i := 63) rfl))) Via.refl e219 f220 (g := (mkF m 28 #[.val (.int p153), .val (.ref w158), .val (.ref b209_0)] [(.ref w210)])) rfl (hb hby at_28)
  obtain ⟨cq225, kq225, q225a, q225b, q225c⟩ := isOf hZ209 e221 o209_0
  obtain ⟨_, _, ⟨T225, L225, k225, n225⟩, -, X225, ⟨Lc225, hQ225, l225, y225, z225⟩, st225⟩ := X221.virtualBack hx (y := (⟨"com/example/transaction_scopes/transactionscopes/ScopeSettings", "isReadOnly", "()Z"⟩ : MethodName)) (z := (⟨"com/example/transaction_scopes/transactionscopes/ScopeSettings", "isReadOnly", "()Z"⟩ : MethodName)) ho209 (mvT hZ209 (hw _ (List.mem_of_getElem? (i := 64) rfl))) (mvT hZ209 (hw _ (List.mem_of_getElem? (i := 65) rfl))) (notFace_of_selects (args := #[]) (mvT hZ209 (hw _ (List.mem_of_getElem? (i := 67) rfl)))) (mvT hZ209 (hw _ (List.mem_of_getElem? (i := 67) rfl))) (mvT hZ209 (hw _ (List.mem_of_getElem? (i := 66) rfl))) (by decide) (backOf (W := 0) (r9_1 l Z a0 hw b209_0 (0 : Int32) T209.heap n0 Z209 o209_3 rfl) hZ209 (hw _ (List.mem_of_getElem? (i := 68) rfl)) (hw _ (List.mem_of_getElem? (i := 10) rfl)) (by decide) (by decide)) q225a q225c (g := (mkF m 35 #[.val (.int p153), .val (.ref w158), .val (.ref b209_0)] [(.ref b209_0)])) rfl (by rw [hml]; rfl) (Steps.refl _) (argsL := []) (rest := []) (lenOf pd_7 rfl) rfl (by show 2 * 0 + _ ≤ _; exact Nat.le_of_eq rfl) (hb hby at_35) (fun _ _ => ⟨rfl, e221, (by decide : 3 + 0 ≤ _), (by decide : 53 + 0 ≤ _)⟩)
  dsimp only [Pt.U, Pt.locs, Pt.cells, Pt.slots] at X225 l225 y225 z225 st225 hQ225
  subst l225 y225 z225
  obtain ⟨rfl, N225q, e225⟩ := hQ225
  have N225 := Fr.app N219 N225q
  obtain ⟨cq228, kq228, q228a, q228b, q228c⟩ := isOf hZ209 e225 o209_0
  obtain ⟨_, _, ⟨T228, L228, k228, n228⟩, -, X228, ⟨Lc228, hQ228, l228, y228, z228⟩, st228⟩ := X225.virtualBack hx (y := (⟨"com/example/transaction_scopes/transactionscopes/ScopeSettings", "timeout", "()Ljava/time/Duration;"⟩ : MethodName)) (z := (⟨"com/example/transaction_scopes/transactionscopes/ScopeSettings", "timeout", "()Ljava/time/Duration;"⟩ : MethodName)) ho209 (mvT hZ209 (hw _ (List.mem_of_getElem? (i := 69) rfl))) (mvT hZ209 (hw _ (List.mem_of_getElem? (i := 70) rfl))) (notFace_of_selects (args := #[]) (mvT hZ209 (hw _ (List.mem_of_getElem? (i := 72) rfl)))) (mvT hZ209 (hw _ (List.mem_of_getElem? (i := 72) rfl))) (mvT hZ209 (hw _ (List.mem_of_getElem? (i := 71) rfl))) (by decide) (backOf (W := 0) (r10_1 l Z a0 hw b209_0 T209.heap n0 Z209 o209_4) hZ209 (hw _ (List.mem_of_getElem? (i := 73) rfl)) (hw _ (List.mem_of_getElem? (i := 10) rfl)) (by decide) (by decide)) q228a q228c (g := (mkF m 42 #[.val (.int p153), .val (.ref w158), .val (.ref b209_0)] [(.ref b209_0)])) rfl (by rw [hml]; rfl) (Steps.refl _) (argsL := []) (rest := []) (lenOf pd_8 rfl) rfl (by show 2 * 0 + _ ≤ _; exact Nat.le_of_eq rfl) (hb hby at_42) (fun _ _ => ⟨rfl, e225, (by decide : 3 + 0 ≤ _), (by decide : 53 + 0 ≤ _)⟩)
  dsimp only [Pt.U, Pt.locs, Pt.cells, Pt.slots] at X228 l228 y228 z228 st228 hQ228
  subst l228 y228 z228
  obtain ⟨rfl, N228q, e228⟩ := hQ228
  have N228 := Fr.app N225 N228q
  obtain ⟨fs, hr, hrun, hended, hR1, hR2, hR3, hR4⟩ := X228.leaveW (s := s) hS209 (by rw [e228]; exact (Nat.le_refl _)) (v := some (.int (1 : Int32))) (fun h => by rw [Bd.returns] at h; cases h)
  refine ⟨_, _, pre0 _ ?_, hrun, hended, _, _, rfl, ?_, hR1, hR2, hR3, hR4.mono (by decide) (by decide)⟩
  · show Steps p.tables e below (s₁.setTop (mkF m 0 #[.val (.int p153), .unset, .unset] [])) _
    refine XS.iloadN X0.here hx rfl (hb hby at_0) rfl ?_
    show Steps p.tables e below (s₁.setTop (mkF m 1 #[.val (.int p153), .unset, .unset] [(.int p153)])) _
    refine st157 _ ?_
    show Steps p.tables e below (T157.setTop (mkF m 4 #[.val (.int p153), .unset, .unset] [(.ref w158)])) _
    refine XS.astoreN X157.here hx rfl (hb hby at_4) rfl rfl (l' := #[.val (.int p153), .val (.ref w158), .unset]) rfl ?_
    show Steps p.tables e below (T157.setTop (mkF m 5 #[.val (.int p153), .val (.ref w158), .unset] [])) _
    refine XS.aloadN X157.here hx rfl (hb hby at_5) rfl rfl ?_
    show Steps p.tables e below (T157.setTop (mkF m 6 #[.val (.int p153), .val (.ref w158), .unset] [(.ref w158)])) _
    refine st209.trans ?_
    show Steps p.tables e below (T209.setTop (mkF m 9 #[.val (.int p153), .val (.ref w158), .unset] [(.ref b209_0)])) _
    refine XS.astoreN X209.here hx rfl (hb hby at_9) rfl rfl (l' := #[.val (.int p153), .val (.ref w158), .val (.ref b209_0)]) rfl ?_
    show Steps p.tables e below (T209.setTop (mkF m 10 #[.val (.int p153), .val (.ref w158), .val (.ref b209_0)] [])) _
    refine XS.aloadN X209.here hx rfl (hb hby at_10) rfl rfl ?_
    show Steps p.tables e below (T209.setTop (mkF m 11 #[.val (.int p153), .val (.ref w158), .val (.ref b209_0)] [(.ref b209_0)])) _
    refine XS.ifnonnullYes X209.here hx rfl (pc0 := 11) (pc' := 16) rfl (hb hby at_11) rfl (by decide) (by decide) ?_
    show Steps p.tables e below (T209.setTop (mkF m 16 #[.val (.int p153), .val (.ref w158), .val (.ref b209_0)] [])) _
    refine XS.aloadN X209.here hx rfl (hb hby at_16) rfl rfl ?_
    show Steps p.tables e below (T209.setTop (mkF m 17 #[.val (.int p153), .val (.ref w158), .val (.ref b209_0)] [(.ref b209_0)])) _
    refine st215.trans ?_
    show Steps p.tables e below (T215.setTop (mkF m 20 #[.val (.int p153), .val (.ref w158), .val (.ref b209_0)] [(.ref w158)])) _
    refine XS.aloadN X215.here hx rfl (hb hby at_20) rfl rfl ?_
    show Steps p.tables e below (T215.setTop (mkF m 21 #[.val (.int p153), .val (.ref w158), .val (.ref b209_0)] [(.ref w158), (.ref w158)])) _
    refine Jvm.RoadKit.acmp (g := (mkF m 21 #[.val (.int p153), .val (.ref w158), .val (.ref b209_0)] [(.ref w158), (.ref w158)])) X215 hx rfl rfl rfl (pc0 := 21) (pc' := 24) (same := true) rfl (hb hby at_21) rfl (decide_eq_true rfl) (by decide) (by decide) ?_
    show Steps p.tables e below (T215.setTop (mkF m 24 #[.val (.int p153), .val (.ref w158), .val (.ref b209_0)] [])) _
    refine XS.aloadN X215.here hx rfl (hb hby at_24) rfl rfl ?_
    show Steps p.tables e below (T215.setTop (mkF m 25 #[.val (.int p153), .val (.ref w158), .val (.ref b209_0)] [(.ref b209_0)])) _
    refine st219.trans ?_
    show Steps p.tables e below (T219.setTop (mkF m 28 #[.val (.int p153), .val (.ref w158), .val (.ref b209_0)] [(.ref w210)])) _
    refine st221 _ ?_
    show Steps p.tables e below (T221.setTop (mkF m 31 #[.val (.int p153), .val (.ref w158), .val (.ref b209_0)] [(.ref w210), (.ref w210)])) _
    refine Jvm.RoadKit.acmp (g := (mkF m 31 #[.val (.int p153), .val (.ref w158), .val (.ref b209_0)] [(.ref w210), (.ref w210)])) X221 hx rfl rfl rfl (pc0 := 31) (pc' := 34) (same := true) rfl (hb hby at_31) rfl (decide_eq_true rfl) (by decide) (by decide) ?_
    show Steps p.tables e below (T221.setTop (mkF m 34 #[.val (.int p153), .val (.ref w158), .val (.ref b209_0)] [])) _
    refine XS.aloadN X221.here hx rfl (hb hby at_34) rfl rfl ?_
    show Steps p.tables e below (T221.setTop (mkF m 35 #[.val (.int p153), .val (.ref w158), .val (.ref b209_0)] [(.ref b209_0)])) _
    refine st225.trans ?_
    show Steps p.tables e below (T225.setTop (mkF m 38 #[.val (.int p153), .val (.ref w158), .val (.ref b209_0)] [(.int (0 : Int32))])) _
    refine XS.ifNo X225.here hx rfl (hb hby at_38) rfl ((if0 _ _).trans (teq (rfl : (0 : Int32) = (0 : Int32))).2) ?_
    show Steps p.tables e below (T225.setTop (mkF m 41 #[.val (.int p153), .val (.ref w158), .val (.ref b209_0)] [])) _
    refine XS.aloadN X225.here hx rfl (hb hby at_41) rfl rfl ?_
    show Steps p.tables e below (T225.setTop (mkF m 42 #[.val (.int p153), .val (.ref w158), .val (.ref b209_0)] [(.ref b209_0)])) _
    refine st228.trans ?_
    show Steps p.tables e below (T228.setTop (mkF m 45 #[.val (.int p153), .val (.ref w158), .val (.ref b209_0)] [.null])) _
    refine XS.ifnonnullNo X228.here hx rfl (hb hby at_45) rfl ?_
    show Steps p.tables e below (T228.setTop (mkF m 48 #[.val (.int p153), .val (.ref w158), .val (.ref b209_0)] [])) _
    refine XS.iconst X228.here hx rfl (hb hby at_48) ?_
    show Steps p.tables e below (T228.setTop (mkF m 49 #[.val (.int p153), .val (.ref w158), .val (.ref b209_0)] [(.int (1 : Int32))])) _
    refine XS.goto X228.here hx rfl (pc0 := 49) (pc' := 53) rfl (hb hby at_49) (by decide) (by decide) ?_
    show Steps p.tables e below (T228.setTop (mkF m 53 #[.val (.int p153), .val (.ref w158), .val (.ref b209_0)] [(.int (1 : Int32))])) _
    exact retN X228 hx (t := .boolean) Bd.returns (by simp) (hb hby at_53) hr
  · show OQl (some (.int (1 : Int32))) n0 _ T228.heap _
    exact ⟨rfl, N228⟩
theorem d1_34 : decode method_2_code 34 = .ok (.iload_n 1, 1) := by decide +kernel
theorem d1_35 : decode method_2_code 35 = .ok (.iconst 3, 1) := by decide +kernel
theorem d1_36 : decode method_2_code 36 = .ok (.if_icmp .ne 7, 3) := by decide +kernel
theorem d1_39 : decode method_2_code 39 = .ok (.getstatic 20, 3) := by decide +kernel
theorem d1_42 : decode method_2_code 42 = .ok (.areturn, 1) := by decide +kernel
set_option maxRecDepth 65536 in
set_option maxHeartbeats 40000000 in
theorem r1_4 (l : Launch) (Z : State) (a0 : Array Value) (hw : ∀ d ∈ tables_1, d.before a0 Z = true) (p230 : Int32) (w231 : Addr) (h0 : Heap) (n0 : Nat) (Z0 : n0 ≤ h0.size) (H0 : ¬ (((p230 &&& (2147483647 : Int32)) % (7 : Int32)) = (0 : Int32))) (H1 : ¬ (((p230 &&& (2147483647 : Int32)) % (7 : Int32)) = (1 : Int32))) (H2 : ¬ (((p230 &&& (2147483647 : Int32)) % (7 : Int32)) = (2 : Int32))) (H3 : ((p230 &&& (2147483647 : Int32)) % (7 : Int32)) = (3 : Int32)) (H4 : Sta Z h0 "com/example/transaction_scopes/transactionscopes/Propagation" "REQUIRES_NEW" "Lcom/example/transaction_scopes/transactionscopes/Propagation;" (.ref w231)) :
    OMet l Z (⟨"com/example/transaction_scopes/transactionscopes/ScopeSettingsOfPinLaw", "pick", "(I)Lcom/example/transaction_scopes/transactionscopes/Propagation;"⟩ : MethodName) method_2_code 2 (some (.object "com/example/transaction_scopes/transactionscopes/Propagation")) [] ({ frames := 0, cells := 0, slots := 0, locals := 0 } : Room) h0 #[(.int p230)] (OQp (some (.ref w231)) h0 n0) := by
  refine MetFree.of_bodySF (plainFor_of_name pn_com_example_transaction_scopes_transactionscopes_ScopeSettingsOfPinLaw) hisR ?_
  intro p e s m args below meth c s₁ Bd hml0 hP hK
  obtain ⟨rfl, hZ, hh⟩ := hP
  have hx := Bd.exec
  have hby := Bd.bytes
  have hml : c.maxLocals = 2 := hml0
  have hown : s.vm.findClass "com/example/transaction_scopes/transactionscopes/ScopeSettingsOfPinLaw" = some m.cls := findClass_of_methodNamed Bd.named
  have hnm := (name_of_methodNamed Bd.named Bd.method).1
  have X0 : Stand p l e ({ frames := 0, cells := 0, slots := 0, locals := 0 } : Room) s m #[(.int p230)] below meth c s₁ [] 0 0 := Stand.of_body Bd
  have e0 : s₁.heap = h0 := by rw [← hh, Bd.state]; rfl
  have N0 := Fr.nil n0
  have pre0 : ∀ t, Steps p.tables e below (s₁.setTop (mkF m 0 #[.val (.int p230), .unset] [])) t → Steps p.tables e below (s₁.setTop (entryFrame m #[(.int p230)] 2)) t := fun t k => castTop (ef_1_v m p230) k
  obtain ⟨T232, X232, e232, st232⟩ := getS2 X0 hx hZ hown (host := "") (Or.inl (hw _ (List.mem_of_getElem? (i := 74) rfl))) Via.refl e0 H4 (g := (mkF m 39 #[.val (.int p230), .val (.int ((p230 &&& (2147483647 : Int32)) % (7 : Int32)))] [])) rfl (hb hby d1_39)
  obtain ⟨fs, hr, hrun, hended, hW, hsame⟩ := X232.leave (v := some (.ref w231)) (fun h => by rw [Bd.returns] at h; cases h)
  refine ⟨_, _, pre0 _ ?_, hrun, hended, _, _, rfl, ?_, ⟨_, rfl⟩, hW, hsame.mono (by decide) (by decide)⟩
  · show Steps p.tables e below (s₁.setTop (mkF m 0 #[.val (.int p230), .unset] [])) _
    refine XS.iloadN X0.here hx rfl (hb hby d1_0) rfl ?_
    show Steps p.tables e below (s₁.setTop (mkF m 1 #[.val (.int p230), .unset] [(.int p230)])) _
    refine X0.ldcInt hx hown (mvT hZ (hw _ (List.mem_of_getElem? (i := 4) rfl))) (g := (mkF m 1 #[.val (.int p230), .unset] [(.int p230)])) rfl (hb hby d1_1) _ ?_
    show Steps p.tables e below (s₁.setTop (mkF m 3 #[.val (.int p230), .unset] [(.int (2147483647 : Int32)), (.int p230)])) _
    refine XS.iand X0.here hx rfl (hb hby d1_3) rfl ?_
    show Steps p.tables e below (s₁.setTop (mkF m 4 #[.val (.int p230), .unset] [(.int (p230 &&& (2147483647 : Int32)))])) _
    refine XS.bipush X0.here hx rfl (hb hby d1_4) ?_
    show Steps p.tables e below (s₁.setTop (mkF m 6 #[.val (.int p230), .unset] [(.int (7 : Int32)), (.int (p230 &&& (2147483647 : Int32)))])) _
    refine iremM X0 hx rfl (hb hby d1_6) rfl (by decide) ?_
    show Steps p.tables e below (s₁.setTop (mkF m 7 #[.val (.int p230), .unset] [(.int ((p230 &&& (2147483647 : Int32)) % (7 : Int32)))])) _
    refine XS.istoreN X0.here hx rfl (hb hby d1_7) rfl (l' := #[.val (.int p230), .val (.int ((p230 &&& (2147483647 : Int32)) % (7 : Int32)))]) rfl ?_
    show Steps p.tables e below (s₁.setTop (mkF m 8 #[.val (.int p230), .val (.int ((p230 &&& (2147483647 : Int32)) % (7 : Int32)))] [])) _
    refine XS.iloadN X0.here hx rfl (hb hby d1_8) rfl ?_
    show Steps p.tables e below (s₁.setTop (mkF m 9 #[.val (.int p230), .val (.int ((p230 &&& (2147483647 : Int32)) % (7 : Int32)))] [(.int ((p230 &&& (2147483647 : Int32)) % (7 : Int32)))])) _
    refine XS.ifYes X0.here hx rfl (pc0 := 9) (pc' := 16) rfl (hb hby d1_9) rfl ((if0 _ _).trans (feq H0).2) (by decide) (by decide) ?_
    show Steps p.tables e below (s₁.setTop (mkF m 16 #[.val (.int p230), .val (.int ((p230 &&& (2147483647 : Int32)) % (7 : Int32)))] [])) _
    refine XS.iloadN X0.here hx rfl (hb hby d1_16) rfl ?_
    show Steps p.tables e below (s₁.setTop (mkF m 17 #[.val (.int p230), .val (.int ((p230 &&& (2147483647 : Int32)) % (7 : Int32)))] [(.int ((p230 &&& (2147483647 : Int32)) % (7 : Int32)))])) _
    refine XS.iconst X0.here hx rfl (hb hby d1_17) ?_
    show Steps p.tables e below (s₁.setTop (mkF m 18 #[.val (.int p230), .val (.int ((p230 &&& (2147483647 : Int32)) % (7 : Int32)))] [(.int (1 : Int32)), (.int ((p230 &&& (2147483647 : Int32)) % (7 : Int32)))])) _
    refine XS.icmpYes X0.here hx rfl (pc0 := 18) (pc' := 25) rfl (hb hby d1_18) rfl (feq H1).2 (by decide) (by decide) ?_
    show Steps p.tables e below (s₁.setTop (mkF m 25 #[.val (.int p230), .val (.int ((p230 &&& (2147483647 : Int32)) % (7 : Int32)))] [])) _
    refine XS.iloadN X0.here hx rfl (hb hby d1_25) rfl ?_
    show Steps p.tables e below (s₁.setTop (mkF m 26 #[.val (.int p230), .val (.int ((p230 &&& (2147483647 : Int32)) % (7 : Int32)))] [(.int ((p230 &&& (2147483647 : Int32)) % (7 : Int32)))])) _
    refine XS.iconst X0.here hx rfl (hb hby d1_26) ?_
    show Steps p.tables e below (s₁.setTop (mkF m 27 #[.val (.int p230), .val (.int ((p230 &&& (2147483647 : Int32)) % (7 : Int32)))] [(.int (2 : Int32)), (.int ((p230 &&& (2147483647 : Int32)) % (7 : Int32)))])) _
    refine XS.icmpYes X0.here hx rfl (pc0 := 27) (pc' := 34) rfl (hb hby d1_27) rfl (feq H2).2 (by decide) (by decide) ?_
    show Steps p.tables e below (s₁.setTop (mkF m 34 #[.val (.int p230), .val (.int ((p230 &&& (2147483647 : Int32)) % (7 : Int32)))] [])) _
    refine XS.iloadN X0.here hx rfl (hb hby d1_34) rfl ?_
    show Steps p.tables e below (s₁.setTop (mkF m 35 #[.val (.int p230), .val (.int ((p230 &&& (2147483647 : Int32)) % (7 : Int32)))] [(.int ((p230 &&& (2147483647 : Int32)) % (7 : Int32)))])) _
    refine XS.iconst X0.here hx rfl (hb hby d1_35) ?_
    show Steps p.tables e below (s₁.setTop (mkF m 36 #[.val (.int p230), .val (.int ((p230 &&& (2147483647 : Int32)) % (7 : Int32)))] [(.int (3 : Int32)), (.int ((p230 &&& (2147483647 : Int32)) % (7 : Int32)))])) _
    refine XS.icmpNo X0.here hx rfl (hb hby d1_36) rfl (teq H3).2 ?_
    show Steps p.tables e below (s₁.setTop (mkF m 39 #[.val (.int p230), .val (.int ((p230 &&& (2147483647 : Int32)) % (7 : Int32)))] [])) _
    refine st232 _ ?_
    show Steps p.tables e below (T232.setTop (mkF m 42 #[.val (.int p230), .val (.int ((p230 &&& (2147483647 : Int32)) % (7 : Int32)))] [(.ref w231)])) _
    jvm_step X232.here [X232.here.top, hx, (hb hby d1_42), X232.method', Bd.returns, Value.isRef, FieldType.isReference]
    first | (intro acts; rw [hr _ acts rfl rfl rfl]) | rw [hr _ _ rfl rfl rfl]
    exact Steps.refl _
  · show OQp (some (.ref w231)) h0 n0 _ T232.heap _
    rw [e232]
    exact ⟨rfl, N0, rfl⟩
set_option maxRecDepth 65536 in
set_option maxHeartbeats 40000000 in
theorem r0_4 (l : Launch) (Z : State) (a0 : Array Value) (hw : ∀ d ∈ tables_1, d.before a0 Z = true) (p229 : Int32) (w234 : Addr) (w286 : Addr) (w287 : Addr) (h0 : Heap) (n0 : Nat) (Z0 : n0 ≤ h0.size) (H0 : ¬ (((p229 &&& (2147483647 : Int32)) % (7 : Int32)) = (0 : Int32))) (H1 : ¬ (((p229 &&& (2147483647 : Int32)) % (7 : Int32)) = (1 : Int32))) (H2 : ¬ (((p229 &&& (2147483647 : Int32)) % (7 : Int32)) = (2 : Int32))) (H3 : ((p229 &&& (2147483647 : Int32)) % (7 : Int32)) = (3 : Int32)) (H4 : Sta Z h0 "com/example/transaction_scopes/transactionscopes/Propagation" "REQUIRES_NEW" "Lcom/example/transaction_scopes/transactionscopes/Propagation;" (.ref w234)) (H5 : Exa Z h0 w234 "com/example/transaction_scopes/transactionscopes/Propagation") (H6 : Sta Z h0 "com/example/transaction_scopes/transactionscopes/Isolation" "DEFAULT" "Lcom/example/transaction_scopes/transactionscopes/Isolation;" (.ref w286)) (H7 : Sta Z h0 "java/util/ImmutableCollections" "EMPTY_MAP" "Ljava/util/ImmutableCollections$MapN;" (.ref w287)) :
    OMetS l Z x code maxLocals ret tables_1 room_1 h0 #[(.int p229)] (OQl (some (.int (1 : Int32))) n0) := by
  refine MetFree.of_bodySF (plainFor_of_name pn_com_example_transaction_scopes_transactionscopes_ScopeSettingsOfPinLaw) hisR ?_
  intro p e s m args below meth c s₁ Bd hml0 hP hK
  obtain ⟨rfl, hZ, hh⟩ := hP
  have hx := Bd.exec
  have hby := Bd.bytes
  have hml : c.maxLocals = 3 := hml0
  have hown : s.vm.findClass "com/example/transaction_scopes/transactionscopes/ScopeSettingsOfPinLaw" = some m.cls := findClass_of_methodNamed Bd.named
  have hnm := (name_of_methodNamed Bd.named Bd.method).1
  have X0 : Stand p l e room_1 s m #[(.int p229)] below meth c s₁ [] 0 0 := Stand.of_body Bd
  have e0 : s₁.heap = h0 := by rw [← hh, Bd.state]; rfl
  have N0 := Fr.nil n0
  have pre0 : ∀ t, Steps p.tables e below (s₁.setTop (mkF m 0 #[.val (.int p229), .unset, .unset] [])) t → Steps p.tables e below (s₁.setTop (entryFrame m #[(.int p229)] maxLocals)) t := fun t k => castTop (ef_0_v m p229) k
  obtain ⟨_, _, ⟨T233, L233, k233, n233⟩, -, X233, ⟨Lc233, hQ233, l233, y233, z233⟩, st233⟩ := Jvm.LawKit.callS X0 hx (y := (⟨"com/example/transaction_scopes/transactionscopes/ScopeSettingsOfPinLaw", "pick", "(I)Lcom/example/transaction_scopes/transactionscopes/Propagation;"⟩ : MethodName)) hown (mvT hZ (hw _ (List.mem_of_getElem? (i := 0) rfl))) (mvT hZ (hw _ (List.mem_of_getElem? (i := 1) rfl))) (mvT hZ (hw _ (List.mem_of_getElem? (i := 2) rfl))) (mvT hZ (hw _ (List.mem_of_getElem? (i := 3) rfl))) (by decide) (backOf (W := 0) (r1_4 l Z a0 hw p229 w234 h0 n0 Z0 H0 H1 H2 H3 H4) hZ (hw _ (List.mem_of_getElem? (i := 3) rfl)) (hw _ (List.mem_of_getElem? (i := 2) rfl)) (by decide) (by decide)) (g := (mkF m 1 #[.val (.int p229), .unset, .unset] [(.int p229)])) rfl (by rw [hml]; rfl) (argsL := [(.int p229)]) (rest := []) (lenOf pd_0 rfl) rfl (by show 2 * 0 + _ ≤ _; exact Nat.le_of_eq rfl) (hb hby at_1) (fun _ _ => ⟨rfl, e0, (by decide : 0 + 0 ≤ _), (by decide : 0 + 0 ≤ _)⟩)
  dsimp only [Pt.U, Pt.locs, Pt.cells, Pt.slots] at X233 l233 y233 z233 st233 hQ233
  subst l233 y233 z233
  obtain ⟨rfl, N233q, e233⟩ := hQ233
  have N233 := Fr.app N0 N233q
  obtain ⟨_, _, ⟨T285, L285, k285, n285⟩, -, X285, hs285, hg285, ⟨Lc285, hQ285, l285, y285, z285⟩, st285⟩ := callSS X233 hx (y := (⟨"com/example/transaction_scopes/transactionscopes/ScopeSettings", "of", "(Lcom/example/transaction_scopes/transactionscopes/Propagation;)Lcom/example/transaction_scopes/transactionscopes/ScopeSettings;"⟩ : MethodName)) hown (mvT hZ (hw _ (List.mem_of_getElem? (i := 8) rfl))) (mvT hZ (hw _ (List.mem_of_getElem? (i := 9) rfl))) (mvT hZ (hw _ (List.mem_of_getElem? (i := 10) rfl))) (mvT hZ (hw _ (List.mem_of_getElem? (i := 11) rfl))) (by decide) (backOfS (W := 0) (r2_1 l Z a0 hw w234 w286 w287 h0 n0 Z0 H5 H6 H7) hZ (hw _ (List.mem_of_getElem? (i := 11) rfl)) (hw _ (List.mem_of_getElem? (i := 10) rfl)) (by decide) (by decide)) (g := (mkF m 6 #[.val (.int p229), .val (.ref w234), .unset] [(.ref w234)])) rfl (by rw [hml]; rfl) (argsL := [(.ref w234)]) (rest := []) (lenOf pd_4 rfl) rfl (by show 2 * 0 + _ ≤ _; exact Nat.le_of_eq rfl) (hb hby at_6) (fun _ _ => ⟨rfl, e233, (by decide : 0 + 3 ≤ _), (by decide : 0 + 53 ≤ _)⟩)
  dsimp only [Pt.U, Pt.locs, Pt.cells, Pt.slots] at X285 l285 y285 z285 st285 hQ285 hs285 hg285
  subst l285 y285 z285
  obtain ⟨N285q, b285_0, rfl, ge_b285_0, K285, o285_0, o285_1, o285_2, o285_3, o285_4, o285_5⟩ := hQ285
  have N285 := Fr.app N233 N285q
  have KC285 := KSx.trans (KSx.refl h0 []) K285 ks0
  have hS285 : s.Since T285.vm T285.heap.size := hs285
  have hZ285 : Z.Warmed39 (s.setVm T285.vm).vm := State.Warmed39.trans (t := s) hZ hs285.1
  have ho285 : (s.setVm T285.vm).vm.findClass "com/example/transaction_scopes/transactionscopes/ScopeSettingsOfPinLaw" = some m.cls := by rw [show (s.setVm T285.vm).vm = T285.vm from rfl, hs285.1.alike.findClass]; exact hown
  replace X285 : Stand p l e room_1 (s.setVm T285.vm) m #[(.int p229)] below meth c T285 _ _ _ := X285
  have Z285 : n0 ≤ T285.heap.size := Nat.le_trans Z0 K285.1
  obtain ⟨cq291, kq291, q291a, q291b, q291c⟩ := isOf hZ285 rfl o285_0
  obtain ⟨_, _, ⟨T291, L291, k291, n291⟩, -, X291, ⟨Lc291, hQ291, l291, y291, z291⟩, st291⟩ := X285.virtualBack hx (y := (⟨"com/example/transaction_scopes/transactionscopes/ScopeSettings", "propagation", "()Lcom/example/transaction_scopes/transactionscopes/Propagation;"⟩ : MethodName)) (z := (⟨"com/example/transaction_scopes/transactionscopes/ScopeSettings", "propagation", "()Lcom/example/transaction_scopes/transactionscopes/Propagation;"⟩ : MethodName)) ho285 (mvT hZ285 (hw _ (List.mem_of_getElem? (i := 53) rfl))) (mvT hZ285 (hw _ (List.mem_of_getElem? (i := 54) rfl))) (notFace_of_selects (args := #[]) (mvT hZ285 (hw _ (List.mem_of_getElem? (i := 56) rfl)))) (mvT hZ285 (hw _ (List.mem_of_getElem? (i := 56) rfl))) (mvT hZ285 (hw _ (List.mem_of_getElem? (i := 55) rfl))) (by decide) (backOf (W := 0) (r7_1 l Z a0 hw b285_0 w234 T285.heap n0 Z285 o285_1) hZ285 (hw _ (List.mem_of_getElem? (i := 57) rfl)) (hw _ (List.mem_of_getElem? (i := 10) rfl)) (by decide) (by decide)) q291a q291c (g := (mkF m 17 #[.val (.int p229), .val (.ref w234), .val (.ref b285_0)] [(.ref b285_0)])) rfl (by rw [hml]; rfl) (Steps.refl _) (argsL := []) (rest := []) (lenOf pd_5 rfl) rfl (by show 2 * 0 + _ ≤ _; exact Nat.le_of_eq rfl) (hb hby at_17) (fun _ _ => ⟨rfl, rfl, (by decide : 3 + 0 ≤ _), (by decide : 53 + 0 ≤ _)⟩)
  dsimp only [Pt.U, Pt.locs, Pt.cells, Pt.slots] at X291 l291 y291 z291 st291 hQ291
  subst l291 y291 z291
  obtain ⟨rfl, N291q, e291⟩ := hQ291
  have N291 := Fr.app N285 N291q
  obtain ⟨cq295, kq295, q295a, q295b, q295c⟩ := isOf hZ285 e291 o285_0
  obtain ⟨_, _, ⟨T295, L295, k295, n295⟩, -, X295, ⟨Lc295, hQ295, l295, y295, z295⟩, st295⟩ := X291.virtualBack hx (y := (⟨"com/example/transaction_scopes/transactionscopes/ScopeSettings", "isolation", "()Lcom/example/transaction_scopes/transactionscopes/Isolation;"⟩ : MethodName)) (z := (⟨"com/example/transaction_scopes/transactionscopes/ScopeSettings", "isolation", "()Lcom/example/transaction_scopes/transactionscopes/Isolation;"⟩ : MethodName)) ho285 (mvT hZ285 (hw _ (List.mem_of_getElem? (i := 58) rfl))) (mvT hZ285 (hw _ (List.mem_of_getElem? (i := 59) rfl))) (notFace_of_selects (args := #[]) (mvT hZ285 (hw _ (List.mem_of_getElem? (i := 61) rfl)))) (mvT hZ285 (hw _ (List.mem_of_getElem? (i := 61) rfl))) (mvT hZ285 (hw _ (List.mem_of_getElem? (i := 60) rfl))) (by decide) (backOf (W := 0) (r8_1 l Z a0 hw b285_0 w286 T285.heap n0 Z285 o285_2) hZ285 (hw _ (List.mem_of_getElem? (i := 62) rfl)) (hw _ (List.mem_of_getElem? (i := 10) rfl)) (by decide) (by decide)) q295a q295c (g := (mkF m 25 #[.val (.int p229), .val (.ref w234), .val (.ref b285_0)] [(.ref b285_0)])) rfl (by rw [hml]; rfl) (Steps.refl _) (argsL := []) (rest := []) (lenOf pd_6 rfl) rfl (by show 2 * 0 + _ ≤ _; exact Nat.le_of_eq rfl) (hb hby at_25) (fun _ _ => ⟨rfl, e291, (by decide : 3 + 0 ≤ _), (by decide : 53 + 0 ≤ _)⟩)
  dsimp only [Pt.U, Pt.locs, Pt.cells, Pt.slots] at X295 l295 y295 z295 st295 hQ295
  subst l295 y295 z295
  obtain ⟨rfl, N295q, e295⟩ := hQ295
  have N295 := Fr.app N291 N295q
  have f296 := (H6.ks K285)
  obtain ⟨T297, X297, e297, st297⟩ := getS2 X295 hx hZ285 ho285 (host := "") (Or.inl (hw _ (List.mem_of_getElem? (i := 63) rfl))) Via.refl e295 f296 (g := (mkF m 28 #[.val (.int p229), .val (.ref w234), .val (.ref b285_0)] [(.ref w286)])) rfl (hb hby at_28)
  obtain ⟨cq301, kq301, q301a, q301b, q301c⟩ := isOf hZ285 e297 o285_0
  obtain ⟨_, _, ⟨T301, L301, k301, n301⟩, -, X301, ⟨Lc301, hQ301, l301, y301, z301⟩, st301⟩ := X297.virtualBack hx (y := (⟨"com/example/transaction_scopes/transactionscopes/ScopeSettings", "isReadOnly", "()Z"⟩ : MethodName)) (z := (⟨"com/example/transaction_scopes/transactionscopes/ScopeSettings", "isReadOnly", "()Z"⟩ : MethodName)) ho285 (mvT hZ285 (hw _ (List.mem_of_getElem? (i := 64) rfl))) (mvT hZ285 (hw _ (List.mem_of_getElem? (i := 65) rfl))) (notFace_of_selects (args := #[]) (mvT hZ285 (hw _ (List.mem_of_getElem? (i := 67) rfl)))) (mvT hZ285 (hw _ (List.mem_of_getElem? (i := 67) rfl))) (mvT hZ285 (hw _ (List.mem_of_getElem? (i := 66) rfl))) (by decide) (backOf (W := 0) (r9_1 l Z a0 hw b285_0 (0 : Int32) T285.heap n0 Z285 o285_3 rfl) hZ285 (hw _ (List.mem_of_getElem? (i := 68) rfl)) (hw _ (List.mem_of_getElem? (i := 10) rfl)) (by decide) (by decide)) q301a q301c (g := (mkF m 35 #[.val (.int p229), .val (.ref w234), .val (.ref b285_0)] [(.ref b285_0)])) rfl (by rw [hml]; rfl) (Steps.refl _) (argsL := []) (rest := []) (lenOf pd_7 rfl) rfl (by show 2 * 0 + _ ≤ _; exact Nat.le_of_eq rfl) (hb hby at_35) (fun _ _ => ⟨rfl, e297, (by decide : 3 + 0 ≤ _), (by decide : 53 + 0 ≤ _)⟩)
  dsimp only [Pt.U, Pt.locs, Pt.cells, Pt.slots] at X301 l301 y301 z301 st301 hQ301
  subst l301 y301 z301
  obtain ⟨rfl, N301q, e301⟩ := hQ301
  have N301 := Fr.app N295 N301q
  obtain ⟨cq304, kq304, q304a, q304b, q304c⟩ := isOf hZ285 e301 o285_0
  obtain ⟨_, _, ⟨T304, L304, k304, n304⟩, -, X304, ⟨Lc304, hQ304, l304, y304, z304⟩, st304⟩ := X301.virtualBack hx (y := (⟨"com/example/transaction_scopes/transactionscopes/ScopeSettings", "timeout", "()Ljava/time/Duration;"⟩ : MethodName)) (z := (⟨"com/example/transaction_scopes/transactionscopes/ScopeSettings", "timeout", "()Ljava/time/Duration;"⟩ : MethodName)) ho285 (mvT hZ285 (hw _ (List.mem_of_getElem? (i := 69) rfl))) (mvT hZ285 (hw _ (List.mem_of_getElem? (i := 70) rfl))) (notFace_of_selects (args := #[]) (mvT hZ285 (hw _ (List.mem_of_getElem? (i := 72) rfl)))) (mvT hZ285 (hw _ (List.mem_of_getElem? (i := 72) rfl))) (mvT hZ285 (hw _ (List.mem_of_getElem? (i := 71) rfl))) (by decide) (backOf (W := 0) (r10_1 l Z a0 hw b285_0 T285.heap n0 Z285 o285_4) hZ285 (hw _ (List.mem_of_getElem? (i := 73) rfl)) (hw _ (List.mem_of_getElem? (i := 10) rfl)) (by decide) (by decide)) q304a q304c (g := (mkF m 42 #[.val (.int p229), .val (.ref w234), .val (.ref b285_0)] [(.ref b285_0)])) rfl (by rw [hml]; rfl) (Steps.refl _) (argsL := []) (rest := []) (lenOf pd_8 rfl) rfl (by show 2 * 0 + _ ≤ _; exact Nat.le_of_eq rfl) (hb hby at_42) (fun _ _ => ⟨rfl, e301, (by decide : 3 + 0 ≤ _), (by decide : 53 + 0 ≤ _)⟩)
  dsimp only [Pt.U, Pt.locs, Pt.cells, Pt.slots] at X304 l304 y304 z304 st304 hQ304
  subst l304 y304 z304
  obtain ⟨rfl, N304q, e304⟩ := hQ304
  have N304 := Fr.app N301 N304q
  obtain ⟨fs, hr, hrun, hended, hR1, hR2, hR3, hR4⟩ := X304.leaveW (s := s) hS285 (by rw [e304]; exact (Nat.le_refl _)) (v := some (.int (1 : Int32))) (fun h => by rw [Bd.returns] at h; cases h)
  refine ⟨_, _, pre0 _ ?_, hrun, hended, _, _, rfl, ?_, hR1, hR2, hR3, hR4.mono (by decide) (by decide)⟩
  · show Steps p.tables e below (s₁.setTop (mkF m 0 #[.val (.int p229), .unset, .unset] [])) _
    refine XS.iloadN X0.here hx rfl (hb hby at_0) rfl ?_
    show Steps p.tables e below (s₁.setTop (mkF m 1 #[.val (.int p229), .unset, .unset] [(.int p229)])) _
    refine st233 _ ?_
    show Steps p.tables e below (T233.setTop (mkF m 4 #[.val (.int p229), .unset, .unset] [(.ref w234)])) _
    refine XS.astoreN X233.here hx rfl (hb hby at_4) rfl rfl (l' := #[.val (.int p229), .val (.ref w234), .unset]) rfl ?_
    show Steps p.tables e below (T233.setTop (mkF m 5 #[.val (.int p229), .val (.ref w234), .unset] [])) _
    refine XS.aloadN X233.here hx rfl (hb hby at_5) rfl rfl ?_
    show Steps p.tables e below (T233.setTop (mkF m 6 #[.val (.int p229), .val (.ref w234), .unset] [(.ref w234)])) _
    refine st285.trans ?_
    show Steps p.tables e below (T285.setTop (mkF m 9 #[.val (.int p229), .val (.ref w234), .unset] [(.ref b285_0)])) _
    refine XS.astoreN X285.here hx rfl (hb hby at_9) rfl rfl (l' := #[.val (.int p229), .val (.ref w234), .val (.ref b285_0)]) rfl ?_
    show Steps p.tables e below (T285.setTop (mkF m 10 #[.val (.int p229), .val (.ref w234), .val (.ref b285_0)] [])) _
    refine XS.aloadN X285.here hx rfl (hb hby at_10) rfl rfl ?_
    show Steps p.tables e below (T285.setTop (mkF m 11 #[.val (.int p229), .val (.ref w234), .val (.ref b285_0)] [(.ref b285_0)])) _
    refine XS.ifnonnullYes X285.here hx rfl (pc0 := 11) (pc' := 16) rfl (hb hby at_11) rfl (by decide) (by decide) ?_
    show Steps p.tables e below (T285.setTop (mkF m 16 #[.val (.int p229), .val (.ref w234), .val (.ref b285_0)] [])) _
    refine XS.aloadN X285.here hx rfl (hb hby at_16) rfl rfl ?_
    show Steps p.tables e below (T285.setTop (mkF m 17 #[.val (.int p229), .val (.ref w234), .val (.ref b285_0)] [(.ref b285_0)])) _
    refine st291.trans ?_
    show Steps p.tables e below (T291.setTop (mkF m 20 #[.val (.int p229), .val (.ref w234), .val (.ref b285_0)] [(.ref w234)])) _
    refine XS.aloadN X291.here hx rfl (hb hby at_20) rfl rfl ?_
    show Steps p.tables e below (T291.setTop (mkF m 21 #[.val (.int p229), .val (.ref w234), .val (.ref b285_0)] [(.ref w234), (.ref w234)])) _
    refine Jvm.RoadKit.acmp (g := (mkF m 21 #[.val (.int p229), .val (.ref w234), .val (.ref b285_0)] [(.ref w234), (.ref w234)])) X291 hx rfl rfl rfl (pc0 := 21) (pc' := 24) (same := true) rfl (hb hby at_21) rfl (decide_eq_true rfl) (by decide) (by decide) ?_
    show Steps p.tables e below (T291.setTop (mkF m 24 #[.val (.int p229), .val (.ref w234), .val (.ref b285_0)] [])) _
    refine XS.aloadN X291.here hx rfl (hb hby at_24) rfl rfl ?_
    show Steps p.tables e below (T291.setTop (mkF m 25 #[.val (.int p229), .val (.ref w234), .val (.ref b285_0)] [(.ref b285_0)])) _
    refine st295.trans ?_
    show Steps p.tables e below (T295.setTop (mkF m 28 #[.val (.int p229), .val (.ref w234), .val (.ref b285_0)] [(.ref w286)])) _
    refine st297 _ ?_
    show Steps p.tables e below (T297.setTop (mkF m 31 #[.val (.int p229), .val (.ref w234), .val (.ref b285_0)] [(.ref w286), (.ref w286)])) _
    refine Jvm.RoadKit.acmp (g := (mkF m 31 #[.val (.int p229), .val (.ref w234), .val (.ref b285_0)] [(.ref w286), (.ref w286)])) X297 hx rfl rfl rfl (pc0 := 31) (pc' := 34) (same := true) rfl (hb hby at_31) rfl (decide_eq_true rfl) (by decide) (by decide) ?_
    show Steps p.tables e below (T297.setTop (mkF m 34 #[.val (.int p229), .val (.ref w234), .val (.ref b285_0)] [])) _
    refine XS.aloadN X297.here hx rfl (hb hby at_34) rfl rfl ?_
    show Steps p.tables e below (T297.setTop (mkF m 35 #[.val (.int p229), .val (.ref w234), .val (.ref b285_0)] [(.ref b285_0)])) _
    refine st301.trans ?_
    show Steps p.tables e below (T301.setTop (mkF m 38 #[.val (.int p229), .val (.ref w234), .val (.ref b285_0)] [(.int (0 : Int32))])) _
    refine XS.ifNo X301.here hx rfl (hb hby at_38) rfl ((if0 _ _).trans (teq (rfl : (0 : Int32) = (0 : Int32))).2) ?_
    show Steps p.tables e below (T301.setTop (mkF m 41 #[.val (.int p229), .val (.ref w234), .val (.ref b285_0)] [])) _
    refine XS.aloadN X301.here hx rfl (hb hby at_41) rfl rfl ?_
    show Steps p.tables e below (T301.setTop (mkF m 42 #[.val (.int p229), .val (.ref w234), .val (.ref b285_0)] [(.ref b285_0)])) _
    refine st304.trans ?_
    show Steps p.tables e below (T304.setTop (mkF m 45 #[.val (.int p229), .val (.ref w234), .val (.ref b285_0)] [.null])) _
    refine XS.ifnonnullNo X304.here hx rfl (hb hby at_45) rfl ?_
    show Steps p.tables e below (T304.setTop (mkF m 48 #[.val (.int p229), .val (.ref w234), .val (.ref b285_0)] [])) _
    refine XS.iconst X304.here hx rfl (hb hby at_48) ?_
    show Steps p.tables e below (T304.setTop (mkF m 49 #[.val (.int p229), .val (.ref w234), .val (.ref b285_0)] [(.int (1 : Int32))])) _
    refine XS.goto X304.here hx rfl (pc0 := 49) (pc' := 53) rfl (hb hby at_49) (by decide) (by decide) ?_
    show Steps p.tables e below (T304.setTop (mkF m 53 #[.val (.int p229), .val (.ref w234), .val (.ref b285_0)] [(.int (1 : Int32))])) _
    exact retN X304 hx (t := .boolean) Bd.returns (by simp) (hb hby at_53) hr
  · show OQl (some (.int (1 : Int32))) n0 _ T304.heap _
    exact ⟨rfl, N304⟩
theorem d1_43 : decode method_2_code 43 = .ok (.iload_n 1, 1) := by decide +kernel
theorem d1_44 : decode method_2_code 44 = .ok (.iconst 4, 1) := by decide +kernel
theorem d1_45 : decode method_2_code 45 = .ok (.if_icmp .ne 7, 3) := by decide +kernel
theorem d1_48 : decode method_2_code 48 = .ok (.getstatic 23, 3) := by decide +kernel
theorem d1_51 : decode method_2_code 51 = .ok (.areturn, 1) := by decide +kernel
set_option maxRecDepth 65536 in
set_option maxHeartbeats 40000000 in
theorem r1_5 (l : Launch) (Z : State) (a0 : Array Value) (hw : ∀ d ∈ tables_1, d.before a0 Z = true) (p306 : Int32) (w307 : Addr) (h0 : Heap) (n0 : Nat) (Z0 : n0 ≤ h0.size) (H0 : ¬ (((p306 &&& (2147483647 : Int32)) % (7 : Int32)) = (0 : Int32))) (H1 : ¬ (((p306 &&& (2147483647 : Int32)) % (7 : Int32)) = (1 : Int32))) (H2 : ¬ (((p306 &&& (2147483647 : Int32)) % (7 : Int32)) = (2 : Int32))) (H3 : ¬ (((p306 &&& (2147483647 : Int32)) % (7 : Int32)) = (3 : Int32))) (H4 : ((p306 &&& (2147483647 : Int32)) % (7 : Int32)) = (4 : Int32)) (H5 : Sta Z h0 "com/example/transaction_scopes/transactionscopes/Propagation" "NOT_SUPPORTED" "Lcom/example/transaction_scopes/transactionscopes/Propagation;" (.ref w307)) :
    OMet l Z (⟨"com/example/transaction_scopes/transactionscopes/ScopeSettingsOfPinLaw", "pick", "(I)Lcom/example/transaction_scopes/transactionscopes/Propagation;"⟩ : MethodName) method_2_code 2 (some (.object "com/example/transaction_scopes/transactionscopes/Propagation")) [] ({ frames := 0, cells := 0, slots := 0, locals := 0 } : Room) h0 #[(.int p306)] (OQp (some (.ref w307)) h0 n0) := by
  refine MetFree.of_bodySF (plainFor_of_name pn_com_example_transaction_scopes_transactionscopes_ScopeSettingsOfPinLaw) hisR ?_
  intro p e s m args below meth c s₁ Bd hml0 hP hK
  obtain ⟨rfl, hZ, hh⟩ := hP
  have hx := Bd.exec
  have hby := Bd.bytes
  have hml : c.maxLocals = 2 := hml0
  have hown : s.vm.findClass "com/example/transaction_scopes/transactionscopes/ScopeSettingsOfPinLaw" = some m.cls := findClass_of_methodNamed Bd.named
  have hnm := (name_of_methodNamed Bd.named Bd.method).1
  have X0 : Stand p l e ({ frames := 0, cells := 0, slots := 0, locals := 0 } : Room) s m #[(.int p306)] below meth c s₁ [] 0 0 := Stand.of_body Bd
  have e0 : s₁.heap = h0 := by rw [← hh, Bd.state]; rfl
  have N0 := Fr.nil n0
  have pre0 : ∀ t, Steps p.tables e below (s₁.setTop (mkF m 0 #[.val (.int p306), .unset] [])) t → Steps p.tables e below (s₁.setTop (entryFrame m #[(.int p306)] 2)) t := fun t k => castTop (ef_1_v m p306) k
  obtain ⟨T308, X308, e308, st308⟩ := getS2 X0 hx hZ hown (host := "") (Or.inl (hw _ (List.mem_of_getElem? (i := 80) rfl))) Via.refl e0 H5 (g := (mkF m 48 #[.val (.int p306), .val (.int ((p306 &&& (2147483647 : Int32)) % (7 : Int32)))] [])) rfl (hb hby d1_48)
  obtain ⟨fs, hr, hrun, hended, hW, hsame⟩ := X308.leave (v := some (.ref w307)) (fun h => by rw [Bd.returns] at h; cases h)
  refine ⟨_, _, pre0 _ ?_, hrun, hended, _, _, rfl, ?_, ⟨_, rfl⟩, hW, hsame.mono (by decide) (by decide)⟩
  · show Steps p.tables e below (s₁.setTop (mkF m 0 #[.val (.int p306), .unset] [])) _
    refine XS.iloadN X0.here hx rfl (hb hby d1_0) rfl ?_
    show Steps p.tables e below (s₁.setTop (mkF m 1 #[.val (.int p306), .unset] [(.int p306)])) _
    refine X0.ldcInt hx hown (mvT hZ (hw _ (List.mem_of_getElem? (i := 4) rfl))) (g := (mkF m 1 #[.val (.int p306), .unset] [(.int p306)])) rfl (hb hby d1_1) _ ?_
    show Steps p.tables e below (s₁.setTop (mkF m 3 #[.val (.int p306), .unset] [(.int (2147483647 : Int32)), (.int p306)])) _
    refine XS.iand X0.here hx rfl (hb hby d1_3) rfl ?_
    show Steps p.tables e below (s₁.setTop (mkF m 4 #[.val (.int p306), .unset] [(.int (p306 &&& (2147483647 : Int32)))])) _
    refine XS.bipush X0.here hx rfl (hb hby d1_4) ?_
    show Steps p.tables e below (s₁.setTop (mkF m 6 #[.val (.int p306), .unset] [(.int (7 : Int32)), (.int (p306 &&& (2147483647 : Int32)))])) _
    refine iremM X0 hx rfl (hb hby d1_6) rfl (by decide) ?_
    show Steps p.tables e below (s₁.setTop (mkF m 7 #[.val (.int p306), .unset] [(.int ((p306 &&& (2147483647 : Int32)) % (7 : Int32)))])) _
    refine XS.istoreN X0.here hx rfl (hb hby d1_7) rfl (l' := #[.val (.int p306), .val (.int ((p306 &&& (2147483647 : Int32)) % (7 : Int32)))]) rfl ?_
    show Steps p.tables e below (s₁.setTop (mkF m 8 #[.val (.int p306), .val (.int ((p306 &&& (2147483647 : Int32)) % (7 : Int32)))] [])) _
    refine XS.iloadN X0.here hx rfl (hb hby d1_8) rfl ?_
    show Steps p.tables e below (s₁.setTop (mkF m 9 #[.val (.int p306), .val (.int ((p306 &&& (2147483647 : Int32)) % (7 : Int32)))] [(.int ((p306 &&& (2147483647 : Int32)) % (7 : Int32)))])) _
    refine XS.ifYes X0.here hx rfl (pc0 := 9) (pc' := 16) rfl (hb hby d1_9) rfl ((if0 _ _).trans (feq H0).2) (by decide) (by decide) ?_
    show Steps p.tables e below (s₁.setTop (mkF m 16 #[.val (.int p306), .val (.int ((p306 &&& (2147483647 : Int32)) % (7 : Int32)))] [])) _
    refine XS.iloadN X0.here hx rfl (hb hby d1_16) rfl ?_
    show Steps p.tables e below (s₁.setTop (mkF m 17 #[.val (.int p306), .val (.int ((p306 &&& (2147483647 : Int32)) % (7 : Int32)))] [(.int ((p306 &&& (2147483647 : Int32)) % (7 : Int32)))])) _
    refine XS.iconst X0.here hx rfl (hb hby d1_17) ?_
    show Steps p.tables e below (s₁.setTop (mkF m 18 #[.val (.int p306), .val (.int ((p306 &&& (2147483647 : Int32)) % (7 : Int32)))] [(.int (1 : Int32)), (.int ((p306 &&& (2147483647 : Int32)) % (7 : Int32)))])) _
    refine XS.icmpYes X0.here hx rfl (pc0 := 18) (pc' := 25) rfl (hb hby d1_18) rfl (feq H1).2 (by decide) (by decide) ?_
    show Steps p.tables e below (s₁.setTop (mkF m 25 #[.val (.int p306), .val (.int ((p306 &&& (2147483647 : Int32)) % (7 : Int32)))] [])) _
    refine XS.iloadN X0.here hx rfl (hb hby d1_25) rfl ?_
    show Steps p.tables e below (s₁.setTop (mkF m 26 #[.val (.int p306), .val (.int ((p306 &&& (2147483647 : Int32)) % (7 : Int32)))] [(.int ((p306 &&& (2147483647 : Int32)) % (7 : Int32)))])) _
    refine XS.iconst X0.here hx rfl (hb hby d1_26) ?_
    show Steps p.tables e below (s₁.setTop (mkF m 27 #[.val (.int p306), .val (.int ((p306 &&& (2147483647 : Int32)) % (7 : Int32)))] [(.int (2 : Int32)), (.int ((p306 &&& (2147483647 : Int32)) % (7 : Int32)))])) _
    refine XS.icmpYes X0.here hx rfl (pc0 := 27) (pc' := 34) rfl (hb hby d1_27) rfl (feq H2).2 (by decide) (by decide) ?_
    show Steps p.tables e below (s₁.setTop (mkF m 34 #[.val (.int p306), .val (.int ((p306 &&& (2147483647 : Int32)) % (7 : Int32)))] [])) _
    refine XS.iloadN X0.here hx rfl (hb hby d1_34) rfl ?_
    show Steps p.tables e below (s₁.setTop (mkF m 35 #[.val (.int p306), .val (.int ((p306 &&& (2147483647 : Int32)) % (7 : Int32)))] [(.int ((p306 &&& (2147483647 : Int32)) % (7 : Int32)))])) _
    refine XS.iconst X0.here hx rfl (hb hby d1_35) ?_
    show Steps p.tables e below (s₁.setTop (mkF m 36 #[.val (.int p306), .val (.int ((p306 &&& (2147483647 : Int32)) % (7 : Int32)))] [(.int (3 : Int32)), (.int ((p306 &&& (2147483647 : Int32)) % (7 : Int32)))])) _
    refine XS.icmpYes X0.here hx rfl (pc0 := 36) (pc' := 43) rfl (hb hby d1_36) rfl (feq H3).2 (by decide) (by decide) ?_
    show Steps p.tables e below (s₁.setTop (mkF m 43 #[.val (.int p306), .val (.int ((p306 &&& (2147483647 : Int32)) % (7 : Int32)))] [])) _
    refine XS.iloadN X0.here hx rfl (hb hby d1_43) rfl ?_
    show Steps p.tables e below (s₁.setTop (mkF m 44 #[.val (.int p306), .val (.int ((p306 &&& (2147483647 : Int32)) % (7 : Int32)))] [(.int ((p306 &&& (2147483647 : Int32)) % (7 : Int32)))])) _
    refine XS.iconst X0.here hx rfl (hb hby d1_44) ?_
    show Steps p.tables e below (s₁.setTop (mkF m 45 #[.val (.int p306), .val (.int ((p306 &&& (2147483647 : Int32)) % (7 : Int32)))] [(.int (4 : Int32)), (.int ((p306 &&& (2147483647 : Int32)) % (7 : Int32)))])) _
    refine XS.icmpNo X0.here hx rfl (hb hby d1_45) rfl (teq H4).2 ?_
    show Steps p.tables e below (s₁.setTop (mkF m 48 #[.val (.int p306), .val (.int ((p306 &&& (2147483647 : Int32)) % (7 : Int32)))] [])) _
    refine st308 _ ?_
    show Steps p.tables e below (T308.setTop (mkF m 51 #[.val (.int p306), .val (.int ((p306 &&& (2147483647 : Int32)) % (7 : Int32)))] [(.ref w307)])) _
    jvm_step X308.here [X308.here.top, hx, (hb hby d1_51), X308.method', Bd.returns, Value.isRef, FieldType.isReference]
    first | (intro acts; rw [hr _ acts rfl rfl rfl]) | rw [hr _ _ rfl rfl rfl]
    exact Steps.refl _
  · show OQp (some (.ref w307)) h0 n0 _ T308.heap _
    rw [e308]
    exact ⟨rfl, N0, rfl⟩
set_option maxRecDepth 65536 in
set_option maxHeartbeats 40000000 in
theorem r0_5 (l : Launch) (Z : State) (a0 : Array Value) (hw : ∀ d ∈ tables_1, d.before a0 Z = true) (p305 : Int32) (w310 : Addr) (w362 : Addr) (w363 : Addr) (h0 : Heap) (n0 : Nat) (Z0 : n0 ≤ h0.size) (H0 : ¬ (((p305 &&& (2147483647 : Int32)) % (7 : Int32)) = (0 : Int32))) (H1 : ¬ (((p305 &&& (2147483647 : Int32)) % (7 : Int32)) = (1 : Int32))) (H2 : ¬ (((p305 &&& (2147483647 : Int32)) % (7 : Int32)) = (2 : Int32))) (H3 : ¬ (((p305 &&& (2147483647 : Int32)) % (7 : Int32)) = (3 : Int32))) (H4 : ((p305 &&& (2147483647 : Int32)) % (7 : Int32)) = (4 : Int32)) (H5 : Sta Z h0 "com/example/transaction_scopes/transactionscopes/Propagation" "NOT_SUPPORTED" "Lcom/example/transaction_scopes/transactionscopes/Propagation;" (.ref w310)) (H6 : Exa Z h0 w310 "com/example/transaction_scopes/transactionscopes/Propagation") (H7 : Sta Z h0 "com/example/transaction_scopes/transactionscopes/Isolation" "DEFAULT" "Lcom/example/transaction_scopes/transactionscopes/Isolation;" (.ref w362)) (H8 : Sta Z h0 "java/util/ImmutableCollections" "EMPTY_MAP" "Ljava/util/ImmutableCollections$MapN;" (.ref w363)) :
    OMetS l Z x code maxLocals ret tables_1 room_1 h0 #[(.int p305)] (OQl (some (.int (1 : Int32))) n0) := by
  refine MetFree.of_bodySF (plainFor_of_name pn_com_example_transaction_scopes_transactionscopes_ScopeSettingsOfPinLaw) hisR ?_
  intro p e s m args below meth c s₁ Bd hml0 hP hK
  obtain ⟨rfl, hZ, hh⟩ := hP
  have hx := Bd.exec
  have hby := Bd.bytes
  have hml : c.maxLocals = 3 := hml0
  have hown : s.vm.findClass "com/example/transaction_scopes/transactionscopes/ScopeSettingsOfPinLaw" = some m.cls := findClass_of_methodNamed Bd.named
  have hnm := (name_of_methodNamed Bd.named Bd.method).1
  have X0 : Stand p l e room_1 s m #[(.int p305)] below meth c s₁ [] 0 0 := Stand.of_body Bd
  have e0 : s₁.heap = h0 := by rw [← hh, Bd.state]; rfl
  have N0 := Fr.nil n0
  have pre0 : ∀ t, Steps p.tables e below (s₁.setTop (mkF m 0 #[.val (.int p305), .unset, .unset] [])) t → Steps p.tables e below (s₁.setTop (entryFrame m #[(.int p305)] maxLocals)) t := fun t k => castTop (ef_0_v m p305) k
  obtain ⟨_, _, ⟨T309, L309, k309, n309⟩, -, X309, ⟨Lc309, hQ309, l309, y309, z309⟩, st309⟩ := Jvm.LawKit.callS X0 hx (y := (⟨"com/example/transaction_scopes/transactionscopes/ScopeSettingsOfPinLaw", "pick", "(I)Lcom/example/transaction_scopes/transactionscopes/Propagation;"⟩ : MethodName)) hown (mvT hZ (hw _ (List.mem_of_getElem? (i := 0) rfl))) (mvT hZ (hw _ (List.mem_of_getElem? (i := 1) rfl))) (mvT hZ (hw _ (List.mem_of_getElem? (i := 2) rfl))) (mvT hZ (hw _ (List.mem_of_getElem? (i := 3) rfl))) (by decide) (backOf (W := 0) (r1_5 l Z a0 hw p305 w310 h0 n0 Z0 H0 H1 H2 H3 H4 H5) hZ (hw _ (List.mem_of_getElem? (i := 3) rfl)) (hw _ (List.mem_of_getElem? (i := 2) rfl)) (by decide) (by decide)) (g := (mkF m 1 #[.val (.int p305), .unset, .unset] [(.int p305)])) rfl (by rw [hml]; rfl) (argsL := [(.int p305)]) (rest := []) (lenOf pd_0 rfl) rfl (by show 2 * 0 + _ ≤ _; exact Nat.le_of_eq rfl) (hb hby at_1) (fun _ _ => ⟨rfl, e0, (by decide : 0 + 0 ≤ _), (by decide : 0 + 0 ≤ _)⟩)
  dsimp only [Pt.U, Pt.locs, Pt.cells, Pt.slots] at X309 l309 y309 z309 st309 hQ309
  subst l309 y309 z309
  obtain ⟨rfl, N309q, e309⟩ := hQ309
  have N309 := Fr.app N0 N309q
  obtain ⟨_, _, ⟨T361, L361, k361, n361⟩, -, X361, hs361, hg361, ⟨Lc361, hQ361, l361, y361, z361⟩, st361⟩ := callSS X309 hx (y := (⟨"com/example/transaction_scopes/transactionscopes/ScopeSettings", "of", "(Lcom/example/transaction_scopes/transactionscopes/Propagation;)Lcom/example/transaction_scopes/transactionscopes/ScopeSettings;"⟩ : MethodName)) hown (mvT hZ (hw _ (List.mem_of_getElem? (i := 8) rfl))) (mvT hZ (hw _ (List.mem_of_getElem? (i := 9) rfl))) (mvT hZ (hw _ (List.mem_of_getElem? (i := 10) rfl))) (mvT hZ (hw _ (List.mem_of_getElem? (i := 11) rfl))) (by decide) (backOfS (W := 0) (r2_1 l Z a0 hw w310 w362 w363 h0 n0 Z0 H6 H7 H8) hZ (hw _ (List.mem_of_getElem? (i := 11) rfl)) (hw _ (List.mem_of_getElem? (i := 10) rfl)) (by decide) (by decide)) (g := (mkF m 6 #[.val (.int p305), .val (.ref w310), .unset] [(.ref w310)])) rfl (by rw [hml]; rfl) (argsL := [(.ref w310)]) (rest := []) (lenOf pd_4 rfl) rfl (by show 2 * 0 + _ ≤ _; exact Nat.le_of_eq rfl) (hb hby at_6) (fun _ _ => ⟨rfl, e309, (by decide : 0 + 3 ≤ _), (by decide : 0 + 53 ≤ _)⟩)
  dsimp only [Pt.U, Pt.locs, Pt.cells, Pt.slots] at X361 l361 y361 z361 st361 hQ361 hs361 hg361
  subst l361 y361 z361
  obtain ⟨N361q, b361_0, rfl, ge_b361_0, K361, o361_0, o361_1, o361_2, o361_3, o361_4, o361_5⟩ := hQ361
  have N361 := Fr.app N309 N361q
  have KC361 := KSx.trans (KSx.refl h0 []) K361 ks0
  have hS361 : s.Since T361.vm T361.heap.size := hs361
  have hZ361 : Z.Warmed39 (s.setVm T361.vm).vm := State.Warmed39.trans (t := s) hZ hs361.1
  have ho361 : (s.setVm T361.vm).vm.findClass "com/example/transaction_scopes/transactionscopes/ScopeSettingsOfPinLaw" = some m.cls := by rw [show (s.setVm T361.vm).vm = T361.vm from rfl, hs361.1.alike.findClass]; exact hown
  replace X361 : Stand p l e room_1 (s.setVm T361.vm) m #[(.int p305)] below meth c T361 _ _ _ := X361
  have Z361 : n0 ≤ T361.heap.size := Nat.le_trans Z0 K361.1
  obtain ⟨cq367, kq367, q367a, q367b, q367c⟩ := isOf hZ361 rfl o361_0
  obtain ⟨_, _, ⟨T367, L367, k367, n367⟩, -, X367, ⟨Lc367, hQ367, l367, y367, z367⟩, st367⟩ := X361.virtualBack hx (y := (⟨"com/example/transaction_scopes/transactionscopes/ScopeSettings", "propagation", "()Lcom/example/transaction_scopes/transactionscopes/Propagation;"⟩ : MethodName)) (z := (⟨"com/example/transaction_scopes/transactionscopes/ScopeSettings", "propagation", "()Lcom/example/transaction_scopes/transactionscopes/Propagation;"⟩ : MethodName)) ho361 (mvT hZ361 (hw _ (List.mem_of_getElem? (i := 53) rfl))) (mvT hZ361 (hw _ (List.mem_of_getElem? (i := 54) rfl))) (notFace_of_selects (args := #[]) (mvT hZ361 (hw _ (List.mem_of_getElem? (i := 56) rfl)))) (mvT hZ361 (hw _ (List.mem_of_getElem? (i := 56) rfl))) (mvT hZ361 (hw _ (List.mem_of_getElem? (i := 55) rfl))) (by decide) (backOf (W := 0) (r7_1 l Z a0 hw b361_0 w310 T361.heap n0 Z361 o361_1) hZ361 (hw _ (List.mem_of_getElem? (i := 57) rfl)) (hw _ (List.mem_of_getElem? (i := 10) rfl)) (by decide) (by decide)) q367a q367c (g := (mkF m 17 #[.val (.int p305), .val (.ref w310), .val (.ref b361_0)] [(.ref b361_0)])) rfl (by rw [hml]; rfl) (Steps.refl _) (argsL := []) (rest := []) (lenOf pd_5 rfl) rfl (by show 2 * 0 + _ ≤ _; exact Nat.le_of_eq rfl) (hb hby at_17) (fun _ _ => ⟨rfl, rfl, (by decide : 3 + 0 ≤ _), (by decide : 53 + 0 ≤ _)⟩)
  dsimp only [Pt.U, Pt.locs, Pt.cells, Pt.slots] at X367 l367 y367 z367 st367 hQ367
  subst l367 y367 z367
  obtain ⟨rfl, N367q, e367⟩ := hQ367
  have N367 := Fr.app N361 N367q
  obtain ⟨cq371, kq371, q371a, q371b, q371c⟩ := isOf hZ361 e367 o361_0
  obtain ⟨_, _, ⟨T371, L371, k371, n371⟩, -, X371, ⟨Lc371, hQ371, l371, y371, z371⟩, st371⟩ := X367.virtualBack hx (y := (⟨"com/example/transaction_scopes/transactionscopes/ScopeSettings", "isolation", "()Lcom/example/transaction_scopes/transactionscopes/Isolation;"⟩ : MethodName)) (z := (⟨"com/example/transaction_scopes/transactionscopes/ScopeSettings", "isolation", "()Lcom/example/transaction_scopes/transactionscopes/Isolation;"⟩ : MethodName)) ho361 (mvT hZ361 (hw _ (List.mem_of_getElem? (i := 58) rfl))) (mvT hZ361 (hw _ (List.mem_of_getElem? (i := 59) rfl))) (notFace_of_selects (args := #[]) (mvT hZ361 (hw _ (List.mem_of_getElem? (i := 61) rfl)))) (mvT hZ361 (hw _ (List.mem_of_getElem? (i := 61) rfl))) (mvT hZ361 (hw _ (List.mem_of_getElem? (i := 60) rfl))) (by decide) (backOf (W := 0) (r8_1 l Z a0 hw b361_0 w362 T361.heap n0 Z361 o361_2) hZ361 (hw _ (List.mem_of_getElem? (i := 62) rfl)) (hw _ (List.mem_of_getElem? (i := 10) rfl)) (by decide) (by decide)) q371a q371c (g := (mkF m 25 #[.val (.int p305), .val (.ref w310), .val (.ref b361_0)] [(.ref b361_0)])) rfl (by rw [hml]; rfl) (Steps.refl _) (argsL := []) (rest := []) (lenOf pd_6 rfl) rfl (by show 2 * 0 + _ ≤ _; exact Nat.le_of_eq rfl) (hb hby at_25) (fun _ _ => ⟨rfl, e367, (by decide : 3 + 0 ≤ _), (by decide : 53 + 0 ≤ _)⟩)
  dsimp only [Pt.U, Pt.locs, Pt.cells, Pt.slots] at X371 l371 y371 z371 st371 hQ371
  subst l371 y371 z371
  obtain ⟨rfl, N371q, e371⟩ := hQ371
  have N371 := Fr.app N367 N371q
  have f372 := (H7.ks K361)
  obtain ⟨T373, X373, e373, st373⟩ := getS2 X371 hx hZ361 ho361 (host := "") (Or.inl (hw _ (List.mem_of_getElem? (i := 63) rfl))) Via.refl e371 f372 (g := (mkF m 28 #[.val (.int p305), .val (.ref w310), .val (.ref b361_0)] [(.ref w362)])) rfl (hb hby at_28)
  obtain ⟨cq377, kq377, q377a, q377b, q377c⟩ := isOf hZ361 e373 o361_0
  obtain ⟨_, _, ⟨T377, L377, k377, n377⟩, -, X377, ⟨Lc377, hQ377, l377, y377, z377⟩, st377⟩ := X373.virtualBack hx (y := (⟨"com/example/transaction_scopes/transactionscopes/ScopeSettings", "isReadOnly", "()Z"⟩ : MethodName)) (z := (⟨"com/example/transaction_scopes/transactionscopes/ScopeSettings", "isReadOnly", "()Z"⟩ : MethodName)) ho361 (mvT hZ361 (hw _ (List.mem_of_getElem? (i := 64) rfl))) (mvT hZ361 (hw _ (List.mem_of_getElem? (i := 65) rfl))) (notFace_of_selects (args := #[]) (mvT hZ361 (hw _ (List.mem_of_getElem? (i := 67) rfl)))) (mvT hZ361 (hw _ (List.mem_of_getElem? (i := 67) rfl))) (mvT hZ361 (hw _ (List.mem_of_getElem? (i := 66) rfl))) (by decide) (backOf (W := 0) (r9_1 l Z a0 hw b361_0 (0 : Int32) T361.heap n0 Z361 o361_3 rfl) hZ361 (hw _ (List.mem_of_getElem? (i := 68) rfl)) (hw _ (List.mem_of_getElem? (i := 10) rfl)) (by decide) (by decide)) q377a q377c (g := (mkF m 35 #[.val (.int p305), .val (.ref w310), .val (.ref b361_0)] [(.ref b361_0)])) rfl (by rw [hml]; rfl) (Steps.refl _) (argsL := []) (rest := []) (lenOf pd_7 rfl) rfl (by show 2 * 0 + _ ≤ _; exact Nat.le_of_eq rfl) (hb hby at_35) (fun _ _ => ⟨rfl, e373, (by decide : 3 + 0 ≤ _), (by decide : 53 + 0 ≤ _)⟩)
  dsimp only [Pt.U, Pt.locs, Pt.cells, Pt.slots] at X377 l377 y377 z377 st377 hQ377
  subst l377 y377 z377
  obtain ⟨rfl, N377q, e377⟩ := hQ377
  have N377 := Fr.app N371 N377q
  obtain ⟨cq380, kq380, q380a, q380b, q380c⟩ := isOf hZ361 e377 o361_0
  obtain ⟨_, _, ⟨T380, L380, k380, n380⟩, -, X380, ⟨Lc380, hQ380, l380, y380, z380⟩, st380⟩ := X377.virtualBack hx (y := (⟨"com/example/transaction_scopes/transactionscopes/ScopeSettings", "timeout", "()Ljava/time/Duration;"⟩ : MethodName)) (z := (⟨"com/example/transaction_scopes/transactionscopes/ScopeSettings", "timeout", "()Ljava/time/Duration;"⟩ : MethodName)) ho361 (mvT hZ361 (hw _ (List.mem_of_getElem? (i := 69) rfl))) (mvT hZ361 (hw _ (List.mem_of_getElem? (i := 70) rfl))) (notFace_of_selects (args := #[]) (mvT hZ361 (hw _ (List.mem_of_getElem? (i := 72) rfl)))) (mvT hZ361 (hw _ (List.mem_of_getElem? (i := 72) rfl))) (mvT hZ361 (hw _ (List.mem_of_getElem? (i := 71) rfl))) (by decide) (backOf (W := 0) (r10_1 l Z a0 hw b361_0 T361.heap n0 Z361 o361_4) hZ361 (hw _ (List.mem_of_getElem? (i := 73) rfl)) (hw _ (List.mem_of_getElem? (i := 10) rfl)) (by decide) (by decide)) q380a q380c (g := (mkF m 42 #[.val (.int p305), .val (.ref w310), .val (.ref b361_0)] [(.ref b361_0)])) rfl (by rw [hml]; rfl) (Steps.refl _) (argsL := []) (rest := []) (lenOf pd_8 rfl) rfl (by show 2 * 0 + _ ≤ _; exact Nat.le_of_eq rfl) (hb hby at_42) (fun _ _ => ⟨rfl, e377, (by decide : 3 + 0 ≤ _), (by decide : 53 + 0 ≤ _)⟩)
  dsimp only [Pt.U, Pt.locs, Pt.cells, Pt.slots] at X380 l380 y380 z380 st380 hQ380
  subst l380 y380 z380
  obtain ⟨rfl, N380q, e380⟩ := hQ380
  have N380 := Fr.app N377 N380q
  obtain ⟨fs, hr, hrun, hended, hR1, hR2, hR3, hR4⟩ := X380.leaveW (s := s) hS361 (by rw [e380]; exact (Nat.le_refl _)) (v := some (.int (1 : Int32))) (fun h => by rw [Bd.returns] at h; cases h)
  refine ⟨_, _, pre0 _ ?_, hrun, hended, _, _, rfl, ?_, hR1, hR2, hR3, hR4.mono (by decide) (by decide)⟩
  · show Steps p.tables e below (s₁.setTop (mkF m 0 #[.val (.int p305), .unset, .unset] [])) _
    refine XS.iloadN X0.here hx rfl (hb hby at_0) rfl ?_
    show Steps p.tables e below (s₁.setTop (mkF m 1 #[.val (.int p305), .unset, .unset] [(.int p305)])) _
    refine st309 _ ?_
    show Steps p.tables e below (T309.setTop (mkF m 4 #[.val (.int p305), .unset, .unset] [(.ref w310)])) _
    refine XS.astoreN X309.here hx rfl (hb hby at_4) rfl rfl (l' := #[.val (.int p305), .val (.ref w310), .unset]) rfl ?_
    show Steps p.tables e below (T309.setTop (mkF m 5 #[.val (.int p305), .val (.ref w310), .unset] [])) _
    refine XS.aloadN X309.here hx rfl (hb hby at_5) rfl rfl ?_
    show Steps p.tables e below (T309.setTop (mkF m 6 #[.val (.int p305), .val (.ref w310), .unset] [(.ref w310)])) _
    refine st361.trans ?_
    show Steps p.tables e below (T361.setTop (mkF m 9 #[.val (.int p305), .val (.ref w310), .unset] [(.ref b361_0)])) _
    refine XS.astoreN X361.here hx rfl (hb hby at_9) rfl rfl (l' := #[.val (.int p305), .val (.ref w310), .val (.ref b361_0)]) rfl ?_
    show Steps p.tables e below (T361.setTop (mkF m 10 #[.val (.int p305), .val (.ref w310), .val (.ref b361_0)] [])) _
    refine XS.aloadN X361.here hx rfl (hb hby at_10) rfl rfl ?_
    show Steps p.tables e below (T361.setTop (mkF m 11 #[.val (.int p305), .val (.ref w310), .val (.ref b361_0)] [(.ref b361_0)])) _
    refine XS.ifnonnullYes X361.here hx rfl (pc0 := 11) (pc' := 16) rfl (hb hby at_11) rfl (by decide) (by decide) ?_
    show Steps p.tables e below (T361.setTop (mkF m 16 #[.val (.int p305), .val (.ref w310), .val (.ref b361_0)] [])) _
    refine XS.aloadN X361.here hx rfl (hb hby at_16) rfl rfl ?_
    show Steps p.tables e below (T361.setTop (mkF m 17 #[.val (.int p305), .val (.ref w310), .val (.ref b361_0)] [(.ref b361_0)])) _
    refine st367.trans ?_
    show Steps p.tables e below (T367.setTop (mkF m 20 #[.val (.int p305), .val (.ref w310), .val (.ref b361_0)] [(.ref w310)])) _
    refine XS.aloadN X367.here hx rfl (hb hby at_20) rfl rfl ?_
    show Steps p.tables e below (T367.setTop (mkF m 21 #[.val (.int p305), .val (.ref w310), .val (.ref b361_0)] [(.ref w310), (.ref w310)])) _
    refine Jvm.RoadKit.acmp (g := (mkF m 21 #[.val (.int p305), .val (.ref w310), .val (.ref b361_0)] [(.ref w310), (.ref w310)])) X367 hx rfl rfl rfl (pc0 := 21) (pc' := 24) (same := true) rfl (hb hby at_21) rfl (decide_eq_true rfl) (by decide) (by decide) ?_
    show Steps p.tables e below (T367.setTop (mkF m 24 #[.val (.int p305), .val (.ref w310), .val (.ref b361_0)] [])) _
    refine XS.aloadN X367.here hx rfl (hb hby at_24) rfl rfl ?_
    show Steps p.tables e below (T367.setTop (mkF m 25 #[.val (.int p305), .val (.ref w310), .val (.ref b361_0)] [(.ref b361_0)])) _
    refine st371.trans ?_
    show Steps p.tables e below (T371.setTop (mkF m 28 #[.val (.int p305), .val (.ref w310), .val (.ref b361_0)] [(.ref w362)])) _
    refine st373 _ ?_
    show Steps p.tables e below (T373.setTop (mkF m 31 #[.val (.int p305), .val (.ref w310), .val (.ref b361_0)] [(.ref w362), (.ref w362)])) _
    refine Jvm.RoadKit.acmp (g := (mkF m 31 #[.val (.int p305), .val (.ref w310), .val (.ref b361_0)] [(.ref w362), (.ref w362)])) X373 hx rfl rfl rfl (pc0 := 31) (pc' := 34) (same := true) rfl (hb hby at_31) rfl (decide_eq_true rfl) (by decide) (by decide) ?_
    show Steps p.tables e below (T373.setTop (mkF m 34 #[.val (.int p305), .val (.ref w310), .val (.ref b361_0)] [])) _
    refine XS.aloadN X373.here hx rfl (hb hby at_34) rfl rfl ?_
    show Steps p.tables e below (T373.setTop (mkF m 35 #[.val (.int p305), .val (.ref w310), .val (.ref b361_0)] [(.ref b361_0)])) _
    refine st377.trans ?_
    show Steps p.tables e below (T377.setTop (mkF m 38 #[.val (.int p305), .val (.ref w310), .val (.ref b361_0)] [(.int (0 : Int32))])) _
    refine XS.ifNo X377.here hx rfl (hb hby at_38) rfl ((if0 _ _).trans (teq (rfl : (0 : Int32) = (0 : Int32))).2) ?_
    show Steps p.tables e below (T377.setTop (mkF m 41 #[.val (.int p305), .val (.ref w310), .val (.ref b361_0)] [])) _
    refine XS.aloadN X377.here hx rfl (hb hby at_41) rfl rfl ?_
    show Steps p.tables e below (T377.setTop (mkF m 42 #[.val (.int p305), .val (.ref w310), .val (.ref b361_0)] [(.ref b361_0)])) _
    refine st380.trans ?_
    show Steps p.tables e below (T380.setTop (mkF m 45 #[.val (.int p305), .val (.ref w310), .val (.ref b361_0)] [.null])) _
    refine XS.ifnonnullNo X380.here hx rfl (hb hby at_45) rfl ?_
    show Steps p.tables e below (T380.setTop (mkF m 48 #[.val (.int p305), .val (.ref w310), .val (.ref b361_0)] [])) _
    refine XS.iconst X380.here hx rfl (hb hby at_48) ?_
    show Steps p.tables e below (T380.setTop (mkF m 49 #[.val (.int p305), .val (.ref w310), .val (.ref b361_0)] [(.int (1 : Int32))])) _
    refine XS.goto X380.here hx rfl (pc0 := 49) (pc' := 53) rfl (hb hby at_49) (by decide) (by decide) ?_
    show Steps p.tables e below (T380.setTop (mkF m 53 #[.val (.int p305), .val (.ref w310), .val (.ref b361_0)] [(.int (1 : Int32))])) _
    exact retN X380 hx (t := .boolean) Bd.returns (by simp) (hb hby at_53) hr
  · show OQl (some (.int (1 : Int32))) n0 _ T380.heap _
    exact ⟨rfl, N380⟩
theorem d1_52 : decode method_2_code 52 = .ok (.iload_n 1, 1) := by decide +kernel
theorem d1_53 : decode method_2_code 53 = .ok (.iconst 5, 1) := by decide +kernel
theorem d1_54 : decode method_2_code 54 = .ok (.if_icmp .ne 7, 3) := by decide +kernel
theorem d1_57 : decode method_2_code 57 = .ok (.getstatic 26, 3) := by decide +kernel
theorem d1_60 : decode method_2_code 60 = .ok (.areturn, 1) := by decide +kernel
set_option maxRecDepth 65536 in
set_option maxHeartbeats 40000000 in
theorem r1_6 (l : Launch) (Z : State) (a0 : Array Value) (hw : ∀ d ∈ tables_1, d.before a0 Z = true) (p382 : Int32) (w383 : Addr) (h0 : Heap) (n0 : Nat) (Z0 : n0 ≤ h0.size) (H0 : ¬ (((p382 &&& (2147483647 : Int32)) % (7 : Int32)) = (0 : Int32))) (H1 : ¬ (((p382 &&& (2147483647 : Int32)) % (7 : Int32)) = (1 : Int32))) (H2 : ¬ (((p382 &&& (2147483647 : Int32)) % (7 : Int32)) = (2 : Int32))) (H3 : ¬ (((p382 &&& (2147483647 : Int32)) % (7 : Int32)) = (3 : Int32))) (H4 : ¬ (((p382 &&& (2147483647 : Int32)) % (7 : Int32)) = (4 : Int32))) (H5 : ((p382 &&& (2147483647 : Int32)) % (7 : Int32)) = (5 : Int32)) (H6 : Sta Z h0 "com/example/transaction_scopes/transactionscopes/Propagation" "NEVER" "Lcom/example/transaction_scopes/transactionscopes/Propagation;" (.ref w383)) :
    OMet l Z (⟨"com/example/transaction_scopes/transactionscopes/ScopeSettingsOfPinLaw", "pick", "(I)Lcom/example/transaction_scopes/transactionscopes/Propagation;"⟩ : MethodName) method_2_code 2 (some (.object "com/example/transaction_scopes/transactionscopes/Propagation")) [] ({ frames := 0, cells := 0, slots := 0, locals := 0 } : Room) h0 #[(.int p382)] (OQp (some (.ref w383)) h0 n0) := by
  refine MetFree.of_bodySF (plainFor_of_name pn_com_example_transaction_scopes_transactionscopes_ScopeSettingsOfPinLaw) hisR ?_
  intro p e s m args below meth c s₁ Bd hml0 hP hK
  obtain ⟨rfl, hZ, hh⟩ := hP
  have hx := Bd.exec
  have hby := Bd.bytes
  have hml : c.maxLocals = 2 := hml0
  have hown : s.vm.findClass "com/example/transaction_scopes/transactionscopes/ScopeSettingsOfPinLaw" = some m.cls := findClass_of_methodNamed Bd.named
  have hnm := (name_of_methodNamed Bd.named Bd.method).1
  have X0 : Stand p l e ({ frames := 0, cells := 0, slots := 0, locals := 0 } : Room) s m #[(.int p382)] below meth c s₁ [] 0 0 := Stand.of_body Bd
  have e0 : s₁.heap = h0 := by rw [← hh, Bd.state]; rfl
  have N0 := Fr.nil n0
  have pre0 : ∀ t, Steps p.tables e below (s₁.setTop (mkF m 0 #[.val (.int p382), .unset] [])) t → Steps p.tables e below (s₁.setTop (entryFrame m #[(.int p382)] 2)) t := fun t k => castTop (ef_1_v m p382) k
  obtain ⟨T384, X384, e384, st384⟩ := getS2 X0 hx hZ hown (host := "") (Or.inl (hw _ (List.mem_of_getElem? (i := 76) rfl))) Via.refl e0 H6 (g := (mkF m 57 #[.val (.int p382), .val (.int ((p382 &&& (2147483647 : Int32)) % (7 : Int32)))] [])) rfl (hb hby d1_57)
  obtain ⟨fs, hr, hrun, hended, hW, hsame⟩ := X384.leave (v := some (.ref w383)) (fun h => by rw [Bd.returns] at h; cases h)
  refine ⟨_, _, pre0 _ ?_, hrun, hended, _, _, rfl, ?_, ⟨_, rfl⟩, hW, hsame.mono (by decide) (by decide)⟩
  · show Steps p.tables e below (s₁.setTop (mkF m 0 #[.val (.int p382), .unset] [])) _
    refine XS.iloadN X0.here hx rfl (hb hby d1_0) rfl ?_
    show Steps p.tables e below (s₁.setTop (mkF m 1 #[.val (.int p382), .unset] [(.int p382)])) _
    refine X0.ldcInt hx hown (mvT hZ (hw _ (List.mem_of_getElem? (i := 4) rfl))) (g := (mkF m 1 #[.val (.int p382), .unset] [(.int p382)])) rfl (hb hby d1_1) _ ?_
    show Steps p.tables e below (s₁.setTop (mkF m 3 #[.val (.int p382), .unset] [(.int (2147483647 : Int32)), (.int p382)])) _
    refine XS.iand X0.here hx rfl (hb hby d1_3) rfl ?_
    show Steps p.tables e below (s₁.setTop (mkF m 4 #[.val (.int p382), .unset] [(.int (p382 &&& (2147483647 : Int32)))])) _
    refine XS.bipush X0.here hx rfl (hb hby d1_4) ?_
    show Steps p.tables e below (s₁.setTop (mkF m 6 #[.val (.int p382), .unset] [(.int (7 : Int32)), (.int (p382 &&& (2147483647 : Int32)))])) _
    refine iremM X0 hx rfl (hb hby d1_6) rfl (by decide) ?_
    show Steps p.tables e below (s₁.setTop (mkF m 7 #[.val (.int p382), .unset] [(.int ((p382 &&& (2147483647 : Int32)) % (7 : Int32)))])) _
    refine XS.istoreN X0.here hx rfl (hb hby d1_7) rfl (l' := #[.val (.int p382), .val (.int ((p382 &&& (2147483647 : Int32)) % (7 : Int32)))]) rfl ?_
    show Steps p.tables e below (s₁.setTop (mkF m 8 #[.val (.int p382), .val (.int ((p382 &&& (2147483647 : Int32)) % (7 : Int32)))] [])) _
    refine XS.iloadN X0.here hx rfl (hb hby d1_8) rfl ?_
    show Steps p.tables e below (s₁.setTop (mkF m 9 #[.val (.int p382), .val (.int ((p382 &&& (2147483647 : Int32)) % (7 : Int32)))] [(.int ((p382 &&& (2147483647 : Int32)) % (7 : Int32)))])) _
    refine XS.ifYes X0.here hx rfl (pc0 := 9) (pc' := 16) rfl (hb hby d1_9) rfl ((if0 _ _).trans (feq H0).2) (by decide) (by decide) ?_
    show Steps p.tables e below (s₁.setTop (mkF m 16 #[.val (.int p382), .val (.int ((p382 &&& (2147483647 : Int32)) % (7 : Int32)))] [])) _
    refine XS.iloadN X0.here hx rfl (hb hby d1_16) rfl ?_
    show Steps p.tables e below (s₁.setTop (mkF m 17 #[.val (.int p382), .val (.int ((p382 &&& (2147483647 : Int32)) % (7 : Int32)))] [(.int ((p382 &&& (2147483647 : Int32)) % (7 : Int32)))])) _
    refine XS.iconst X0.here hx rfl (hb hby d1_17) ?_
    show Steps p.tables e below (s₁.setTop (mkF m 18 #[.val (.int p382), .val (.int ((p382 &&& (2147483647 : Int32)) % (7 : Int32)))] [(.int (1 : Int32)), (.int ((p382 &&& (2147483647 : Int32)) % (7 : Int32)))])) _
    refine XS.icmpYes X0.here hx rfl (pc0 := 18) (pc' := 25) rfl (hb hby d1_18) rfl (feq H1).2 (by decide) (by decide) ?_
    show Steps p.tables e below (s₁.setTop (mkF m 25 #[.val (.int p382), .val (.int ((p382 &&& (2147483647 : Int32)) % (7 : Int32)))] [])) _
    refine XS.iloadN X0.here hx rfl (hb hby d1_25) rfl ?_
    show Steps p.tables e below (s₁.setTop (mkF m 26 #[.val (.int p382), .val (.int ((p382 &&& (2147483647 : Int32)) % (7 : Int32)))] [(.int ((p382 &&& (2147483647 : Int32)) % (7 : Int32)))])) _
    refine XS.iconst X0.here hx rfl (hb hby d1_26) ?_
    show Steps p.tables e below (s₁.setTop (mkF m 27 #[.val (.int p382), .val (.int ((p382 &&& (2147483647 : Int32)) % (7 : Int32)))] [(.int (2 : Int32)), (.int ((p382 &&& (2147483647 : Int32)) % (7 : Int32)))])) _
    refine XS.icmpYes X0.here hx rfl (pc0 := 27) (pc' := 34) rfl (hb hby d1_27) rfl (feq H2).2 (by decide) (by decide) ?_
    show Steps p.tables e below (s₁.setTop (mkF m 34 #[.val (.int p382), .val (.int ((p382 &&& (2147483647 : Int32)) % (7 : Int32)))] [])) _
    refine XS.iloadN X0.here hx rfl (hb hby d1_34) rfl ?_
    show Steps p.tables e below (s₁.setTop (mkF m 35 #[.val (.int p382), .val (.int ((p382 &&& (2147483647 : Int32)) % (7 : Int32)))] [(.int ((p382 &&& (2147483647 : Int32)) % (7 : Int32)))])) _
    refine XS.iconst X0.here hx rfl (hb hby d1_35) ?_
    show Steps p.tables e below (s₁.setTop (mkF m 36 #[.val (.int p382), .val (.int ((p382 &&& (2147483647 : Int32)) % (7 : Int32)))] [(.int (3 : Int32)), (.int ((p382 &&& (2147483647 : Int32)) % (7 : Int32)))])) _
    refine XS.icmpYes X0.here hx rfl (pc0 := 36) (pc' := 43) rfl (hb hby d1_36) rfl (feq H3).2 (by decide) (by decide) ?_
    show Steps p.tables e below (s₁.setTop (mkF m 43 #[.val (.int p382), .val (.int ((p382 &&& (2147483647 : Int32)) % (7 : Int32)))] [])) _
    refine XS.iloadN X0.here hx rfl (hb hby d1_43) rfl ?_
    show Steps p.tables e below (s₁.setTop (mkF m 44 #[.val (.int p382), .val (.int ((p382 &&& (2147483647 : Int32)) % (7 : Int32)))] [(.int ((p382 &&& (2147483647 : Int32)) % (7 : Int32)))])) _
    refine XS.iconst X0.here hx rfl (hb hby d1_44) ?_
    show Steps p.tables e below (s₁.setTop (mkF m 45 #[.val (.int p382), .val (.int ((p382 &&& (2147483647 : Int32)) % (7 : Int32)))] [(.int (4 : Int32)), (.int ((p382 &&& (2147483647 : Int32)) % (7 : Int32)))])) _
    refine XS.icmpYes X0.here hx rfl (pc0 := 45) (pc' := 52) rfl (hb hby d1_45) rfl (feq H4).2 (by decide) (by decide) ?_
    show Steps p.tables e below (s₁.setTop (mkF m 52 #[.val (.int p382), .val (.int ((p382 &&& (2147483647 : Int32)) % (7 : Int32)))] [])) _
    refine XS.iloadN X0.here hx rfl (hb hby d1_52) rfl ?_
    show Steps p.tables e below (s₁.setTop (mkF m 53 #[.val (.int p382), .val (.int ((p382 &&& (2147483647 : Int32)) % (7 : Int32)))] [(.int ((p382 &&& (2147483647 : Int32)) % (7 : Int32)))])) _
    refine XS.iconst X0.here hx rfl (hb hby d1_53) ?_
    show Steps p.tables e below (s₁.setTop (mkF m 54 #[.val (.int p382), .val (.int ((p382 &&& (2147483647 : Int32)) % (7 : Int32)))] [(.int (5 : Int32)), (.int ((p382 &&& (2147483647 : Int32)) % (7 : Int32)))])) _
    refine XS.icmpNo X0.here hx rfl (hb hby d1_54) rfl (teq H5).2 ?_
    show Steps p.tables e below (s₁.setTop (mkF m 57 #[.val (.int p382), .val (.int ((p382 &&& (2147483647 : Int32)) % (7 : Int32)))] [])) _
    refine st384 _ ?_
    show Steps p.tables e below (T384.setTop (mkF m 60 #[.val (.int p382), .val (.int ((p382 &&& (2147483647 : Int32)) % (7 : Int32)))] [(.ref w383)])) _
    jvm_step X384.here [X384.here.top, hx, (hb hby d1_60), X384.method', Bd.returns, Value.isRef, FieldType.isReference]
    first | (intro acts; rw [hr _ acts rfl rfl rfl]) | rw [hr _ _ rfl rfl rfl]
    exact Steps.refl _
  · show OQp (some (.ref w383)) h0 n0 _ T384.heap _
    rw [e384]
    exact ⟨rfl, N0, rfl⟩
set_option maxRecDepth 65536 in
set_option maxHeartbeats 40000000 in
theorem r0_6 (l : Launch) (Z : State) (a0 : Array Value) (hw : ∀ d ∈ tables_1, d.before a0 Z = true) (p381 : Int32) (w386 : Addr) (w438 : Addr) (w439 : Addr) (h0 : Heap) (n0 : Nat) (Z0 : n0 ≤ h0.size) (H0 : ¬ (((p381 &&& (2147483647 : Int32)) % (7 : Int32)) = (0 : Int32))) (H1 : ¬ (((p381 &&& (2147483647 : Int32)) % (7 : Int32)) = (1 : Int32))) (H2 : ¬ (((p381 &&& (2147483647 : Int32)) % (7 : Int32)) = (2 : Int32))) (H3 : ¬ (((p381 &&& (2147483647 : Int32)) % (7 : Int32)) = (3 : Int32))) (H4 : ¬ (((p381 &&& (2147483647 : Int32)) % (7 : Int32)) = (4 : Int32))) (H5 : ((p381 &&& (2147483647 : Int32)) % (7 : Int32)) = (5 : Int32)) (H6 : Sta Z h0 "com/example/transaction_scopes/transactionscopes/Propagation" "NEVER" "Lcom/example/transaction_scopes/transactionscopes/Propagation;" (.ref w386)) (H7 : Exa Z h0 w386 "com/example/transaction_scopes/transactionscopes/Propagation") (H8 : Sta Z h0 "com/example/transaction_scopes/transactionscopes/Isolation" "DEFAULT" "Lcom/example/transaction_scopes/transactionscopes/Isolation;" (.ref w438)) (H9 : Sta Z h0 "java/util/ImmutableCollections" "EMPTY_MAP" "Ljava/util/ImmutableCollections$MapN;" (.ref w439)) :
    OMetS l Z x code maxLocals ret tables_1 room_1 h0 #[(.int p381)] (OQl (some (.int (1 : Int32))) n0) := by
  refine MetFree.of_bodySF (plainFor_of_name pn_com_example_transaction_scopes_transactionscopes_ScopeSettingsOfPinLaw) hisR ?_
  intro p e s m args below meth c s₁ Bd hml0 hP hK
  obtain ⟨rfl, hZ, hh⟩ := hP
  have hx := Bd.exec
  have hby := Bd.bytes
  have hml : c.maxLocals = 3 := hml0
  have hown : s.vm.findClass "com/example/transaction_scopes/transactionscopes/ScopeSettingsOfPinLaw" = some m.cls := findClass_of_methodNamed Bd.named
  have hnm := (name_of_methodNamed Bd.named Bd.method).1
  have X0 : Stand p l e room_1 s m #[(.int p381)] below meth c s₁ [] 0 0 := Stand.of_body Bd
  have e0 : s₁.heap = h0 := by rw [← hh, Bd.state]; rfl
  have N0 := Fr.nil n0
  have pre0 : ∀ t, Steps p.tables e below (s₁.setTop (mkF m 0 #[.val (.int p381), .unset, .unset] [])) t → Steps p.tables e below (s₁.setTop (entryFrame m #[(.int p381)] maxLocals)) t := fun t k => castTop (ef_0_v m p381) k
  obtain ⟨_, _, ⟨T385, L385, k385, n385⟩, -, X385, ⟨Lc385, hQ385, l385, y385, z385⟩, st385⟩ := Jvm.LawKit.callS X0 hx (y := (⟨"com/example/transaction_scopes/transactionscopes/ScopeSettingsOfPinLaw", "pick", "(I)Lcom/example/transaction_scopes/transactionscopes/Propagation;"⟩ : MethodName)) hown (mvT hZ (hw _ (List.mem_of_getElem? (i := 0) rfl))) (mvT hZ (hw _ (List.mem_of_getElem? (i := 1) rfl))) (mvT hZ (hw _ (List.mem_of_getElem? (i := 2) rfl))) (mvT hZ (hw _ (List.mem_of_getElem? (i := 3) rfl))) (by decide) (backOf (W := 0) (r1_6 l Z a0 hw p381 w386 h0 n0 Z0 H0 H1 H2 H3 H4 H5 H6) hZ (hw _ (List.mem_of_getElem? (i := 3) rfl)) (hw _ (List.mem_of_getElem? (i := 2) rfl)) (by decide) (by decide)) (g := (mkF m 1 #[.val (.int p381), .unset, .unset] [(.int p381)])) rfl (by rw [hml]; rfl) (argsL := [(.int p381)]) (rest := []) (lenOf pd_0 rfl) rfl (by show 2 * 0 + _ ≤ _; exact Nat.le_of_eq rfl) (hb hby at_1) (fun _ _ => ⟨rfl, e0, (by decide : 0 + 0 ≤ _), (by decide : 0 + 0 ≤ _)⟩)
  dsimp only [Pt.U, Pt.locs, Pt.cells, Pt.slots] at X385 l385 y385 z385 st385 hQ385
  subst l385 y385 z385
  obtain ⟨rfl, N385q, e385⟩ := hQ385
  have N385 := Fr.app N0 N385q
  obtain ⟨_, _, ⟨T437, L437, k437, n437⟩, -, X437, hs437, hg437, ⟨Lc437, hQ437, l437, y437, z437⟩, st437⟩ := callSS X385 hx (y := (⟨"com/example/transaction_scopes/transactionscopes/ScopeSettings", "of", "(Lcom/example/transaction_scopes/transactionscopes/Propagation;)Lcom/example/transaction_scopes/transactionscopes/ScopeSettings;"⟩ : MethodName)) hown (mvT hZ (hw _ (List.mem_of_getElem? (i := 8) rfl))) (mvT hZ (hw _ (List.mem_of_getElem? (i := 9) rfl))) (mvT hZ (hw _ (List.mem_of_getElem? (i := 10) rfl))) (mvT hZ (hw _ (List.mem_of_getElem? (i := 11) rfl))) (by decide) (backOfS (W := 0) (r2_1 l Z a0 hw w386 w438 w439 h0 n0 Z0 H7 H8 H9) hZ (hw _ (List.mem_of_getElem? (i := 11) rfl)) (hw _ (List.mem_of_getElem? (i := 10) rfl)) (by decide) (by decide)) (g := (mkF m 6 #[.val (.int p381), .val (.ref w386), .unset] [(.ref w386)])) rfl (by rw [hml]; rfl) (argsL := [(.ref w386)]) (rest := []) (lenOf pd_4 rfl) rfl (by show 2 * 0 + _ ≤ _; exact Nat.le_of_eq rfl) (hb hby at_6) (fun _ _ => ⟨rfl, e385, (by decide : 0 + 3 ≤ _), (by decide : 0 + 53 ≤ _)⟩)
  dsimp only [Pt.U, Pt.locs, Pt.cells, Pt.slots] at X437 l437 y437 z437 st437 hQ437 hs437 hg437
  subst l437 y437 z437
  obtain ⟨N437q, b437_0, rfl, ge_b437_0, K437, o437_0, o437_1, o437_2, o437_3, o437_4, o437_5⟩ := hQ437
  have N437 := Fr.app N385 N437q
  have KC437 := KSx.trans (KSx.refl h0 []) K437 ks0
  have hS437 : s.Since T437.vm T437.heap.size := hs437
  have hZ437 : Z.Warmed39 (s.setVm T437.vm).vm := State.Warmed39.trans (t := s) hZ hs437.1
  have ho437 : (s.setVm T437.vm).vm.findClass "com/example/transaction_scopes/transactionscopes/ScopeSettingsOfPinLaw" = some m.cls := by rw [show (s.setVm T437.vm).vm = T437.vm from rfl, hs437.1.alike.findClass]; exact hown
  replace X437 : Stand p l e room_1 (s.setVm T437.vm) m #[(.int p381)] below meth c T437 _ _ _ := X437
  have Z437 : n0 ≤ T437.heap.size := Nat.le_trans Z0 K437.1
  obtain ⟨cq443, kq443, q443a, q443b, q443c⟩ := isOf hZ437 rfl o437_0
  obtain ⟨_, _, ⟨T443, L443, k443, n443⟩, -, X443, ⟨Lc443, hQ443, l443, y443, z443⟩, st443⟩ := X437.virtualBack hx (y := (⟨"com/example/transaction_scopes/transactionscopes/ScopeSettings", "propagation", "()Lcom/example/transaction_scopes/transactionscopes/Propagation;"⟩ : MethodName)) (z := (⟨"com/example/transaction_scopes/transactionscopes/ScopeSettings", "propagation", "()Lcom/example/transaction_scopes/transactionscopes/Propagation;"⟩ : MethodName)) ho437 (mvT hZ437 (hw _ (List.mem_of_getElem? (i := 53) rfl))) (mvT hZ437 (hw _ (List.mem_of_getElem? (i := 54) rfl))) (notFace_of_selects (args := #[]) (mvT hZ437 (hw _ (List.mem_of_getElem? (i := 56) rfl)))) (mvT hZ437 (hw _ (List.mem_of_getElem? (i := 56) rfl))) (mvT hZ437 (hw _ (List.mem_of_getElem? (i := 55) rfl))) (by decide) (backOf (W := 0) (r7_1 l Z a0 hw b437_0 w386 T437.heap n0 Z437 o437_1) hZ437 (hw _ (List.mem_of_getElem? (i := 57) rfl)) (hw _ (List.mem_of_getElem? (i := 10) rfl)) (by decide) (by decide)) q443a q443c (g := (mkF m 17 #[.val (.int p381), .val (.ref w386), .val (.ref b437_0)] [(.ref b437_0)])) rfl (by rw [hml]; rfl) (Steps.refl _) (argsL := []) (rest := []) (lenOf pd_5 rfl) rfl (by show 2 * 0 + _ ≤ _; exact Nat.le_of_eq rfl) (hb hby at_17) (fun _ _ => ⟨rfl, rfl, (by decide : 3 + 0 ≤ _), (by decide : 53 + 0 ≤ _)⟩)
  dsimp only [Pt.U, Pt.locs, Pt.cells, Pt.slots] at X443 l443 y443 z443 st443 hQ443
  subst l443 y443 z443
  obtain ⟨rfl, N443q, e443⟩ := hQ443
  have N443 := Fr.app N437 N443q
  obtain ⟨cq447, kq447, q447a, q447b, q447c⟩ := isOf hZ437 e443 o437_0
  obtain ⟨_, _, ⟨T447, L447, k447, n447⟩, -, X447, ⟨Lc447, hQ447, l447, y447, z447⟩, st447⟩ := X443.virtualBack hx (y := (⟨"com/example/transaction_scopes/transactionscopes/ScopeSettings", "isolation", "()Lcom/example/transaction_scopes/transactionscopes/Isolation;"⟩ : MethodName)) (z := (⟨"com/example/transaction_scopes/transactionscopes/ScopeSettings", "isolation", "()Lcom/example/transaction_scopes/transactionscopes/Isolation;"⟩ : MethodName)) ho437 (mvT hZ437 (hw _ (List.mem_of_getElem? (i := 58) rfl))) (mvT hZ437 (hw _ (List.mem_of_getElem? (i := 59) rfl))) (notFace_of_selects (args := #[]) (mvT hZ437 (hw _ (List.mem_of_getElem? (i := 61) rfl)))) (mvT hZ437 (hw _ (List.mem_of_getElem? (i := 61) rfl))) (mvT hZ437 (hw _ (List.mem_of_getElem? (i := 60) rfl))) (by decide) (backOf (W := 0) (r8_1 l Z a0 hw b437_0 w438 T437.heap n0 Z437 o437_2) hZ437 (hw _ (List.mem_of_getElem? (i := 62) rfl)) (hw _ (List.mem_of_getElem? (i := 10) rfl)) (by decide) (by decide)) q447a q447c (g := (mkF m 25 #[.val (.int p381), .val (.ref w386), .val (.ref b437_0)] [(.ref b437_0)])) rfl (by rw [hml]; rfl) (Steps.refl _) (argsL := []) (rest := []) (lenOf pd_6 rfl) rfl (by show 2 * 0 + _ ≤ _; exact Nat.le_of_eq rfl) (hb hby at_25) (fun _ _ => ⟨rfl, e443, (by decide : 3 + 0 ≤ _), (by decide : 53 + 0 ≤ _)⟩)
  dsimp only [Pt.U, Pt.locs, Pt.cells, Pt.slots] at X447 l447 y447 z447 st447 hQ447
  subst l447 y447 z447
  obtain ⟨rfl, N447q, e447⟩ := hQ447
  have N447 := Fr.app N443 N447q
  have f448 := (H8.ks K437)
  obtain ⟨T449, X449, e449, st449⟩ := getS2 X447 hx hZ437 ho437 (host := "") (Or.inl (hw _ (List.mem_of_getElem? (i := 63) rfl))) Via.refl e447 f448 (g := (mkF m 28 #[.val (.int p381), .val (.ref w386), .val (.ref b437_0)] [(.ref w438)])) rfl (hb hby at_28)
  obtain ⟨cq453, kq453, q453a, q453b, q453c⟩ := isOf hZ437 e449 o437_0
  obtain ⟨_, _, ⟨T453, L453, k453, n453⟩, -, X453, ⟨Lc453, hQ453, l453, y453, z453⟩, st453⟩ := X449.virtualBack hx (y := (⟨"com/example/transaction_scopes/transactionscopes/ScopeSettings", "isReadOnly", "()Z"⟩ : MethodName)) (z := (⟨"com/example/transaction_scopes/transactionscopes/ScopeSettings", "isReadOnly", "()Z"⟩ : MethodName)) ho437 (mvT hZ437 (hw _ (List.mem_of_getElem? (i := 64) rfl))) (mvT hZ437 (hw _ (List.mem_of_getElem? (i := 65) rfl))) (notFace_of_selects (args := #[]) (mvT hZ437 (hw _ (List.mem_of_getElem? (i := 67) rfl)))) (mvT hZ437 (hw _ (List.mem_of_getElem? (i := 67) rfl))) (mvT hZ437 (hw _ (List.mem_of_getElem? (i := 66) rfl))) (by decide) (backOf (W := 0) (r9_1 l Z a0 hw b437_0 (0 : Int32) T437.heap n0 Z437 o437_3 rfl) hZ437 (hw _ (List.mem_of_getElem? (i := 68) rfl)) (hw _ (List.mem_of_getElem? (i := 10) rfl)) (by decide) (by decide)) q453a q453c (g := (mkF m 35 #[.val (.int p381), .val (.ref w386), .val (.ref b437_0)] [(.ref b437_0)])) rfl (by rw [hml]; rfl) (Steps.refl _) (argsL := []) (rest := []) (lenOf pd_7 rfl) rfl (by show 2 * 0 + _ ≤ _; exact Nat.le_of_eq rfl) (hb hby at_35) (fun _ _ => ⟨rfl, e449, (by decide : 3 + 0 ≤ _), (by decide : 53 + 0 ≤ _)⟩)
  dsimp only [Pt.U, Pt.locs, Pt.cells, Pt.slots] at X453 l453 y453 z453 st453 hQ453
  subst l453 y453 z453
  obtain ⟨rfl, N453q, e453⟩ := hQ453
  have N453 := Fr.app N447 N453q
  obtain ⟨cq456, kq456, q456a, q456b, q456c⟩ := isOf hZ437 e453 o437_0
  obtain ⟨_, _, ⟨T456, L456, k456, n456⟩, -, X456, ⟨Lc456, hQ456, l456, y456, z456⟩, st456⟩ := X453.virtualBack hx (y := (⟨"com/example/transaction_scopes/transactionscopes/ScopeSettings", "timeout", "()Ljava/time/Duration;"⟩ : MethodName)) (z := (⟨"com/example/transaction_scopes/transactionscopes/ScopeSettings", "timeout", "()Ljava/time/Duration;"⟩ : MethodName)) ho437 (mvT hZ437 (hw _ (List.mem_of_getElem? (i := 69) rfl))) (mvT hZ437 (hw _ (List.mem_of_getElem? (i := 70) rfl))) (notFace_of_selects (args := #[]) (mvT hZ437 (hw _ (List.mem_of_getElem? (i := 72) rfl)))) (mvT hZ437 (hw _ (List.mem_of_getElem? (i := 72) rfl))) (mvT hZ437 (hw _ (List.mem_of_getElem? (i := 71) rfl))) (by decide) (backOf (W := 0) (r10_1 l Z a0 hw b437_0 T437.heap n0 Z437 o437_4) hZ437 (hw _ (List.mem_of_getElem? (i := 73) rfl)) (hw _ (List.mem_of_getElem? (i := 10) rfl)) (by decide) (by decide)) q456a q456c (g := (mkF m 42 #[.val (.int p381), .val (.ref w386), .val (.ref b437_0)] [(.ref b437_0)])) rfl (by rw [hml]; rfl) (Steps.refl _) (argsL := []) (rest := []) (lenOf pd_8 rfl) rfl (by show 2 * 0 + _ ≤ _; exact Nat.le_of_eq rfl) (hb hby at_42) (fun _ _ => ⟨rfl, e453, (by decide : 3 + 0 ≤ _), (by decide : 53 + 0 ≤ _)⟩)
  dsimp only [Pt.U, Pt.locs, Pt.cells, Pt.slots] at X456 l456 y456 z456 st456 hQ456
  subst l456 y456 z456
  obtain ⟨rfl, N456q, e456⟩ := hQ456
  have N456 := Fr.app N453 N456q
  obtain ⟨fs, hr, hrun, hended, hR1, hR2, hR3, hR4⟩ := X456.leaveW (s := s) hS437 (by rw [e456]; exact (Nat.le_refl _)) (v := some (.int (1 : Int32))) (fun h => by rw [Bd.returns] at h; cases h)
  refine ⟨_, _, pre0 _ ?_, hrun, hended, _, _, rfl, ?_, hR1, hR2, hR3, hR4.mono (by decide) (by decide)⟩
  · show Steps p.tables e below (s₁.setTop (mkF m 0 #[.val (.int p381), .unset, .unset] [])) _
    refine XS.iloadN X0.here hx rfl (hb hby at_0) rfl ?_
    show Steps p.tables e below (s₁.setTop (mkF m 1 #[.val (.int p381), .unset, .unset] [(.int p381)])) _
    refine st385 _ ?_
    show Steps p.tables e below (T385.setTop (mkF m 4 #[.val (.int p381), .unset, .unset] [(.ref w386)])) _
    refine XS.astoreN X385.here hx rfl (hb hby at_4) rfl rfl (l' := #[.val (.int p381), .val (.ref w386), .unset]) rfl ?_
    show Steps p.tables e below (T385.setTop (mkF m 5 #[.val (.int p381), .val (.ref w386), .unset] [])) _
    refine XS.aloadN X385.here hx rfl (hb hby at_5) rfl rfl ?_
    show Steps p.tables e below (T385.setTop (mkF m 6 #[.val (.int p381), .val (.ref w386), .unset] [(.ref w386)])) _
    refine st437.trans ?_
    show Steps p.tables e below (T437.setTop (mkF m 9 #[.val (.int p381), .val (.ref w386), .unset] [(.ref b437_0)])) _
    refine XS.astoreN X437.here hx rfl (hb hby at_9) rfl rfl (l' := #[.val (.int p381), .val (.ref w386), .val (.ref b437_0)]) rfl ?_
    show Steps p.tables e below (T437.setTop (mkF m 10 #[.val (.int p381), .val (.ref w386), .val (.ref b437_0)] [])) _
    refine XS.aloadN X437.here hx rfl (hb hby at_10) rfl rfl ?_
    show Steps p.tables e below (T437.setTop (mkF m 11 #[.val (.int p381), .val (.ref w386), .val (.ref b437_0)] [(.ref b437_0)])) _
    refine XS.ifnonnullYes X437.here hx rfl (pc0 := 11) (pc' := 16) rfl (hb hby at_11) rfl (by decide) (by decide) ?_
    show Steps p.tables e below (T437.setTop (mkF m 16 #[.val (.int p381), .val (.ref w386), .val (.ref b437_0)] [])) _
    refine XS.aloadN X437.here hx rfl (hb hby at_16) rfl rfl ?_
    show Steps p.tables e below (T437.setTop (mkF m 17 #[.val (.int p381), .val (.ref w386), .val (.ref b437_0)] [(.ref b437_0)])) _
    refine st443.trans ?_
    show Steps p.tables e below (T443.setTop (mkF m 20 #[.val (.int p381), .val (.ref w386), .val (.ref b437_0)] [(.ref w386)])) _
    refine XS.aloadN X443.here hx rfl (hb hby at_20) rfl rfl ?_
    show Steps p.tables e below (T443.setTop (mkF m 21 #[.val (.int p381), .val (.ref w386), .val (.ref b437_0)] [(.ref w386), (.ref w386)])) _
    refine Jvm.RoadKit.acmp (g := (mkF m 21 #[.val (.int p381), .val (.ref w386), .val (.ref b437_0)] [(.ref w386), (.ref w386)])) X443 hx rfl rfl rfl (pc0 := 21) (pc' := 24) (same := true) rfl (hb hby at_21) rfl (decide_eq_true rfl) (by decide) (by decide) ?_
    show Steps p.tables e below (T443.setTop (mkF m 24 #[.val (.int p381), .val (.ref w386), .val (.ref b437_0)] [])) _
    refine XS.aloadN X443.here hx rfl (hb hby at_24) rfl rfl ?_
    show Steps p.tables e below (T443.setTop (mkF m 25 #[.val (.int p381), .val (.ref w386), .val (.ref b437_0)] [(.ref b437_0)])) _
    refine st447.trans ?_
    show Steps p.tables e below (T447.setTop (mkF m 28 #[.val (.int p381), .val (.ref w386), .val (.ref b437_0)] [(.ref w438)])) _
    refine st449 _ ?_
    show Steps p.tables e below (T449.setTop (mkF m 31 #[.val (.int p381), .val (.ref w386), .val (.ref b437_0)] [(.ref w438), (.ref w438)])) _
    refine Jvm.RoadKit.acmp (g := (mkF m 31 #[.val (.int p381), .val (.ref w386), .val (.ref b437_0)] [(.ref w438), (.ref w438)])) X449 hx rfl rfl rfl (pc0 := 31) (pc' := 34) (same := true) rfl (hb hby at_31) rfl (decide_eq_true rfl) (by decide) (by decide) ?_
    show Steps p.tables e below (T449.setTop (mkF m 34 #[.val (.int p381), .val (.ref w386), .val (.ref b437_0)] [])) _
    refine XS.aloadN X449.here hx rfl (hb hby at_34) rfl rfl ?_
    show Steps p.tables e below (T449.setTop (mkF m 35 #[.val (.int p381), .val (.ref w386), .val (.ref b437_0)] [(.ref b437_0)])) _
    refine st453.trans ?_
    show Steps p.tables e below (T453.setTop (mkF m 38 #[.val (.int p381), .val (.ref w386), .val (.ref b437_0)] [(.int (0 : Int32))])) _
    refine XS.ifNo X453.here hx rfl (hb hby at_38) rfl ((if0 _ _).trans (teq (rfl : (0 : Int32) = (0 : Int32))).2) ?_
    show Steps p.tables e below (T453.setTop (mkF m 41 #[.val (.int p381), .val (.ref w386), .val (.ref b437_0)] [])) _
    refine XS.aloadN X453.here hx rfl (hb hby at_41) rfl rfl ?_
    show Steps p.tables e below (T453.setTop (mkF m 42 #[.val (.int p381), .val (.ref w386), .val (.ref b437_0)] [(.ref b437_0)])) _
    refine st456.trans ?_
    show Steps p.tables e below (T456.setTop (mkF m 45 #[.val (.int p381), .val (.ref w386), .val (.ref b437_0)] [.null])) _
    refine XS.ifnonnullNo X456.here hx rfl (hb hby at_45) rfl ?_
    show Steps p.tables e below (T456.setTop (mkF m 48 #[.val (.int p381), .val (.ref w386), .val (.ref b437_0)] [])) _
    refine XS.iconst X456.here hx rfl (hb hby at_48) ?_
    show Steps p.tables e below (T456.setTop (mkF m 49 #[.val (.int p381), .val (.ref w386), .val (.ref b437_0)] [(.int (1 : Int32))])) _
    refine XS.goto X456.here hx rfl (pc0 := 49) (pc' := 53) rfl (hb hby at_49) (by decide) (by decide) ?_
    show Steps p.tables e below (T456.setTop (mkF m 53 #[.val (.int p381), .val (.ref w386), .val (.ref b437_0)] [(.int (1 : Int32))])) _
    exact retN X456 hx (t := .boolean) Bd.returns (by simp) (hb hby at_53) hr
  · show OQl (some (.int (1 : Int32))) n0 _ T456.heap _
    exact ⟨rfl, N456⟩
theorem d1_61 : decode method_2_code 61 = .ok (.getstatic 29, 3) := by decide +kernel
theorem d1_64 : decode method_2_code 64 = .ok (.areturn, 1) := by decide +kernel
set_option maxRecDepth 65536 in
set_option maxHeartbeats 40000000 in
theorem r1_7 (l : Launch) (Z : State) (a0 : Array Value) (hw : ∀ d ∈ tables_1, d.before a0 Z = true) (p458 : Int32) (w459 : Addr) (h0 : Heap) (n0 : Nat) (Z0 : n0 ≤ h0.size) (H0 : ¬ (((p458 &&& (2147483647 : Int32)) % (7 : Int32)) = (0 : Int32))) (H1 : ¬ (((p458 &&& (2147483647 : Int32)) % (7 : Int32)) = (1 : Int32))) (H2 : ¬ (((p458 &&& (2147483647 : Int32)) % (7 : Int32)) = (2 : Int32))) (H3 : ¬ (((p458 &&& (2147483647 : Int32)) % (7 : Int32)) = (3 : Int32))) (H4 : ¬ (((p458 &&& (2147483647 : Int32)) % (7 : Int32)) = (4 : Int32))) (H5 : ¬ (((p458 &&& (2147483647 : Int32)) % (7 : Int32)) = (5 : Int32))) (H6 : Sta Z h0 "com/example/transaction_scopes/transactionscopes/Propagation" "NESTED" "Lcom/example/transaction_scopes/transactionscopes/Propagation;" (.ref w459)) :
    OMet l Z (⟨"com/example/transaction_scopes/transactionscopes/ScopeSettingsOfPinLaw", "pick", "(I)Lcom/example/transaction_scopes/transactionscopes/Propagation;"⟩ : MethodName) method_2_code 2 (some (.object "com/example/transaction_scopes/transactionscopes/Propagation")) [] ({ frames := 0, cells := 0, slots := 0, locals := 0 } : Room) h0 #[(.int p458)] (OQp (some (.ref w459)) h0 n0) := by
  refine MetFree.of_bodySF (plainFor_of_name pn_com_example_transaction_scopes_transactionscopes_ScopeSettingsOfPinLaw) hisR ?_
  intro p e s m args below meth c s₁ Bd hml0 hP hK
  obtain ⟨rfl, hZ, hh⟩ := hP
  have hx := Bd.exec
  have hby := Bd.bytes
  have hml : c.maxLocals = 2 := hml0
  have hown : s.vm.findClass "com/example/transaction_scopes/transactionscopes/ScopeSettingsOfPinLaw" = some m.cls := findClass_of_methodNamed Bd.named
  have hnm := (name_of_methodNamed Bd.named Bd.method).1
  have X0 : Stand p l e ({ frames := 0, cells := 0, slots := 0, locals := 0 } : Room) s m #[(.int p458)] below meth c s₁ [] 0 0 := Stand.of_body Bd
  have e0 : s₁.heap = h0 := by rw [← hh, Bd.state]; rfl
  have N0 := Fr.nil n0
  have pre0 : ∀ t, Steps p.tables e below (s₁.setTop (mkF m 0 #[.val (.int p458), .unset] [])) t → Steps p.tables e below (s₁.setTop (entryFrame m #[(.int p458)] 2)) t := fun t k => castTop (ef_1_v m p458) k
  obtain ⟨T460, X460, e460, st460⟩ := getS2 X0 hx hZ hown (host := "") (Or.inl (hw _ (List.mem_of_getElem? (i := 78) rfl))) Via.refl e0 H6 (g := (mkF m 61 #[.val (.int p458), .val (.int ((p458 &&& (2147483647 : Int32)) % (7 : Int32)))] [])) rfl (hb hby d1_61)
  obtain ⟨fs, hr, hrun, hended, hW, hsame⟩ := X460.leave (v := some (.ref w459)) (fun h => by rw [Bd.returns] at h; cases h)
  refine ⟨_, _, pre0 _ ?_, hrun, hended, _, _, rfl, ?_, ⟨_, rfl⟩, hW, hsame.mono (by decide) (by decide)⟩
  · show Steps p.tables e below (s₁.setTop (mkF m 0 #[.val (.int p458), .unset] [])) _
    refine XS.iloadN X0.here hx rfl (hb hby d1_0) rfl ?_
    show Steps p.tables e below (s₁.setTop (mkF m 1 #[.val (.int p458), .unset] [(.int p458)])) _
    refine X0.ldcInt hx hown (mvT hZ (hw _ (List.mem_of_getElem? (i := 4) rfl))) (g := (mkF m 1 #[.val (.int p458), .unset] [(.int p458)])) rfl (hb hby d1_1) _ ?_
    show Steps p.tables e below (s₁.setTop (mkF m 3 #[.val (.int p458), .unset] [(.int (2147483647 : Int32)), (.int p458)])) _
    refine XS.iand X0.here hx rfl (hb hby d1_3) rfl ?_
    show Steps p.tables e below (s₁.setTop (mkF m 4 #[.val (.int p458), .unset] [(.int (p458 &&& (2147483647 : Int32)))])) _
    refine XS.bipush X0.here hx rfl (hb hby d1_4) ?_
    show Steps p.tables e below (s₁.setTop (mkF m 6 #[.val (.int p458), .unset] [(.int (7 : Int32)), (.int (p458 &&& (2147483647 : Int32)))])) _
    refine iremM X0 hx rfl (hb hby d1_6) rfl (by decide) ?_
    show Steps p.tables e below (s₁.setTop (mkF m 7 #[.val (.int p458), .unset] [(.int ((p458 &&& (2147483647 : Int32)) % (7 : Int32)))])) _
    refine XS.istoreN X0.here hx rfl (hb hby d1_7) rfl (l' := #[.val (.int p458), .val (.int ((p458 &&& (2147483647 : Int32)) % (7 : Int32)))]) rfl ?_
    show Steps p.tables e below (s₁.setTop (mkF m 8 #[.val (.int p458), .val (.int ((p458 &&& (2147483647 : Int32)) % (7 : Int32)))] [])) _
    refine XS.iloadN X0.here hx rfl (hb hby d1_8) rfl ?_
    show Steps p.tables e below (s₁.setTop (mkF m 9 #[.val (.int p458), .val (.int ((p458 &&& (2147483647 : Int32)) % (7 : Int32)))] [(.int ((p458 &&& (2147483647 : Int32)) % (7 : Int32)))])) _
    refine XS.ifYes X0.here hx rfl (pc0 := 9) (pc' := 16) rfl (hb hby d1_9) rfl ((if0 _ _).trans (feq H0).2) (by decide) (by decide) ?_
    show Steps p.tables e below (s₁.setTop (mkF m 16 #[.val (.int p458), .val (.int ((p458 &&& (2147483647 : Int32)) % (7 : Int32)))] [])) _
    refine XS.iloadN X0.here hx rfl (hb hby d1_16) rfl ?_
    show Steps p.tables e below (s₁.setTop (mkF m 17 #[.val (.int p458), .val (.int ((p458 &&& (2147483647 : Int32)) % (7 : Int32)))] [(.int ((p458 &&& (2147483647 : Int32)) % (7 : Int32)))])) _
    refine XS.iconst X0.here hx rfl (hb hby d1_17) ?_
    show Steps p.tables e below (s₁.setTop (mkF m 18 #[.val (.int p458), .val (.int ((p458 &&& (2147483647 : Int32)) % (7 : Int32)))] [(.int (1 : Int32)), (.int ((p458 &&& (2147483647 : Int32)) % (7 : Int32)))])) _
    refine XS.icmpYes X0.here hx rfl (pc0 := 18) (pc' := 25) rfl (hb hby d1_18) rfl (feq H1).2 (by decide) (by decide) ?_
    show Steps p.tables e below (s₁.setTop (mkF m 25 #[.val (.int p458), .val (.int ((p458 &&& (2147483647 : Int32)) % (7 : Int32)))] [])) _
    refine XS.iloadN X0.here hx rfl (hb hby d1_25) rfl ?_
    show Steps p.tables e below (s₁.setTop (mkF m 26 #[.val (.int p458), .val (.int ((p458 &&& (2147483647 : Int32)) % (7 : Int32)))] [(.int ((p458 &&& (2147483647 : Int32)) % (7 : Int32)))])) _
    refine XS.iconst X0.here hx rfl (hb hby d1_26) ?_
    show Steps p.tables e below (s₁.setTop (mkF m 27 #[.val (.int p458), .val (.int ((p458 &&& (2147483647 : Int32)) % (7 : Int32)))] [(.int (2 : Int32)), (.int ((p458 &&& (2147483647 : Int32)) % (7 : Int32)))])) _
    refine XS.icmpYes X0.here hx rfl (pc0 := 27) (pc' := 34) rfl (hb hby d1_27) rfl (feq H2).2 (by decide) (by decide) ?_
    show Steps p.tables e below (s₁.setTop (mkF m 34 #[.val (.int p458), .val (.int ((p458 &&& (2147483647 : Int32)) % (7 : Int32)))] [])) _
    refine XS.iloadN X0.here hx rfl (hb hby d1_34) rfl ?_
    show Steps p.tables e below (s₁.setTop (mkF m 35 #[.val (.int p458), .val (.int ((p458 &&& (2147483647 : Int32)) % (7 : Int32)))] [(.int ((p458 &&& (2147483647 : Int32)) % (7 : Int32)))])) _
    refine XS.iconst X0.here hx rfl (hb hby d1_35) ?_
    show Steps p.tables e below (s₁.setTop (mkF m 36 #[.val (.int p458), .val (.int ((p458 &&& (2147483647 : Int32)) % (7 : Int32)))] [(.int (3 : Int32)), (.int ((p458 &&& (2147483647 : Int32)) % (7 : Int32)))])) _
    refine XS.icmpYes X0.here hx rfl (pc0 := 36) (pc' := 43) rfl (hb hby d1_36) rfl (feq H3).2 (by decide) (by decide) ?_
    show Steps p.tables e below (s₁.setTop (mkF m 43 #[.val (.int p458), .val (.int ((p458 &&& (2147483647 : Int32)) % (7 : Int32)))] [])) _
    refine XS.iloadN X0.here hx rfl (hb hby d1_43) rfl ?_
    show Steps p.tables e below (s₁.setTop (mkF m 44 #[.val (.int p458), .val (.int ((p458 &&& (2147483647 : Int32)) % (7 : Int32)))] [(.int ((p458 &&& (2147483647 : Int32)) % (7 : Int32)))])) _
    refine XS.iconst X0.here hx rfl (hb hby d1_44) ?_
    show Steps p.tables e below (s₁.setTop (mkF m 45 #[.val (.int p458), .val (.int ((p458 &&& (2147483647 : Int32)) % (7 : Int32)))] [(.int (4 : Int32)), (.int ((p458 &&& (2147483647 : Int32)) % (7 : Int32)))])) _
    refine XS.icmpYes X0.here hx rfl (pc0 := 45) (pc' := 52) rfl (hb hby d1_45) rfl (feq H4).2 (by decide) (by decide) ?_
    show Steps p.tables e below (s₁.setTop (mkF m 52 #[.val (.int p458), .val (.int ((p458 &&& (2147483647 : Int32)) % (7 : Int32)))] [])) _
    refine XS.iloadN X0.here hx rfl (hb hby d1_52) rfl ?_
    show Steps p.tables e below (s₁.setTop (mkF m 53 #[.val (.int p458), .val (.int ((p458 &&& (2147483647 : Int32)) % (7 : Int32)))] [(.int ((p458 &&& (2147483647 : Int32)) % (7 : Int32)))])) _
    refine XS.iconst X0.here hx rfl (hb hby d1_53) ?_
    show Steps p.tables e below (s₁.setTop (mkF m 54 #[.val (.int p458), .val (.int ((p458 &&& (2147483647 : Int32)) % (7 : Int32)))] [(.int (5 : Int32)), (.int ((p458 &&& (2147483647 : Int32)) % (7 : Int32)))])) _
    refine XS.icmpYes X0.here hx rfl (pc0 := 54) (pc' := 61) rfl (hb hby d1_54) rfl (feq H5).2 (by decide) (by decide) ?_
    show Steps p.tables e below (s₁.setTop (mkF m 61 #[.val (.int p458), .val (.int ((p458 &&& (2147483647 : Int32)) % (7 : Int32)))] [])) _
    refine st460 _ ?_
    show Steps p.tables e below (T460.setTop (mkF m 64 #[.val (.int p458), .val (.int ((p458 &&& (2147483647 : Int32)) % (7 : Int32)))] [(.ref w459)])) _
    jvm_step X460.here [X460.here.top, hx, (hb hby d1_64), X460.method', Bd.returns, Value.isRef, FieldType.isReference]
    first | (intro acts; rw [hr _ acts rfl rfl rfl]) | rw [hr _ _ rfl rfl rfl]
    exact Steps.refl _
  · show OQp (some (.ref w459)) h0 n0 _ T460.heap _
    rw [e460]
    exact ⟨rfl, N0, rfl⟩
set_option maxRecDepth 65536 in
set_option maxHeartbeats 40000000 in
theorem r0_7 (l : Launch) (Z : State) (a0 : Array Value) (hw : ∀ d ∈ tables_1, d.before a0 Z = true) (p457 : Int32) (w462 : Addr) (w514 : Addr) (w515 : Addr) (h0 : Heap) (n0 : Nat) (Z0 : n0 ≤ h0.size) (H0 : ¬ (((p457 &&& (2147483647 : Int32)) % (7 : Int32)) = (0 : Int32))) (H1 : ¬ (((p457 &&& (2147483647 : Int32)) % (7 : Int32)) = (1 : Int32))) (H2 : ¬ (((p457 &&& (2147483647 : Int32)) % (7 : Int32)) = (2 : Int32))) (H3 : ¬ (((p457 &&& (2147483647 : Int32)) % (7 : Int32)) = (3 : Int32))) (H4 : ¬ (((p457 &&& (2147483647 : Int32)) % (7 : Int32)) = (4 : Int32))) (H5 : ¬ (((p457 &&& (2147483647 : Int32)) % (7 : Int32)) = (5 : Int32))) (H6 : Sta Z h0 "com/example/transaction_scopes/transactionscopes/Propagation" "NESTED" "Lcom/example/transaction_scopes/transactionscopes/Propagation;" (.ref w462)) (H7 : Exa Z h0 w462 "com/example/transaction_scopes/transactionscopes/Propagation") (H8 : Sta Z h0 "com/example/transaction_scopes/transactionscopes/Isolation" "DEFAULT" "Lcom/example/transaction_scopes/transactionscopes/Isolation;" (.ref w514)) (H9 : Sta Z h0 "java/util/ImmutableCollections" "EMPTY_MAP" "Ljava/util/ImmutableCollections$MapN;" (.ref w515)) :
    OMetS l Z x code maxLocals ret tables_1 room_1 h0 #[(.int p457)] (OQl (some (.int (1 : Int32))) n0) := by
  refine MetFree.of_bodySF (plainFor_of_name pn_com_example_transaction_scopes_transactionscopes_ScopeSettingsOfPinLaw) hisR ?_
  intro p e s m args below meth c s₁ Bd hml0 hP hK
  obtain ⟨rfl, hZ, hh⟩ := hP
  have hx := Bd.exec
  have hby := Bd.bytes
  have hml : c.maxLocals = 3 := hml0
  have hown : s.vm.findClass "com/example/transaction_scopes/transactionscopes/ScopeSettingsOfPinLaw" = some m.cls := findClass_of_methodNamed Bd.named
  have hnm := (name_of_methodNamed Bd.named Bd.method).1
  have X0 : Stand p l e room_1 s m #[(.int p457)] below meth c s₁ [] 0 0 := Stand.of_body Bd
  have e0 : s₁.heap = h0 := by rw [← hh, Bd.state]; rfl
  have N0 := Fr.nil n0
  have pre0 : ∀ t, Steps p.tables e below (s₁.setTop (mkF m 0 #[.val (.int p457), .unset, .unset] [])) t → Steps p.tables e below (s₁.setTop (entryFrame m #[(.int p457)] maxLocals)) t := fun t k => castTop (ef_0_v m p457) k
  obtain ⟨_, _, ⟨T461, L461, k461, n461⟩, -, X461, ⟨Lc461, hQ461, l461, y461, z461⟩, st461⟩ := Jvm.LawKit.callS X0 hx (y := (⟨"com/example/transaction_scopes/transactionscopes/ScopeSettingsOfPinLaw", "pick", "(I)Lcom/example/transaction_scopes/transactionscopes/Propagation;"⟩ : MethodName)) hown (mvT hZ (hw _ (List.mem_of_getElem? (i := 0) rfl))) (mvT hZ (hw _ (List.mem_of_getElem? (i := 1) rfl))) (mvT hZ (hw _ (List.mem_of_getElem? (i := 2) rfl))) (mvT hZ (hw _ (List.mem_of_getElem? (i := 3) rfl))) (by decide) (backOf (W := 0) (r1_7 l Z a0 hw p457 w462 h0 n0 Z0 H0 H1 H2 H3 H4 H5 H6) hZ (hw _ (List.mem_of_getElem? (i := 3) rfl)) (hw _ (List.mem_of_getElem? (i := 2) rfl)) (by decide) (by decide)) (g := (mkF m 1 #[.val (.int p457), .unset, .unset] [(.int p457)])) rfl (by rw [hml]; rfl) (argsL := [(.int p457)]) (rest := []) (lenOf pd_0 rfl) rfl (by show 2 * 0 + _ ≤ _; exact Nat.le_of_eq rfl) (hb hby at_1) (fun _ _ => ⟨rfl, e0, (by decide : 0 + 0 ≤ _), (by decide : 0 + 0 ≤ _)⟩)
  dsimp only [Pt.U, Pt.locs, Pt.cells, Pt.slots] at X461 l461 y461 z461 st461 hQ461
  subst l461 y461 z461
  obtain ⟨rfl, N461q, e461⟩ := hQ461
  have N461 := Fr.app N0 N461q
  obtain ⟨_, _, ⟨T513, L513, k513, n513⟩, -, X513, hs513, hg513, ⟨Lc513, hQ513, l513, y513, z513⟩, st513⟩ := callSS X461 hx (y := (⟨"com/example/transaction_scopes/transactionscopes/ScopeSettings", "of", "(Lcom/example/transaction_scopes/transactionscopes/Propagation;)Lcom/example/transaction_scopes/transactionscopes/ScopeSettings;"⟩ : MethodName)) hown (mvT hZ (hw _ (List.mem_of_getElem? (i := 8) rfl))) (mvT hZ (hw _ (List.mem_of_getElem? (i := 9) rfl))) (mvT hZ (hw _ (List.mem_of_getElem? (i := 10) rfl))) (mvT hZ (hw _ (List.mem_of_getElem? (i := 11) rfl))) (by decide) (backOfS (W := 0) (r2_1 l Z a0 hw w462 w514 w515 h0 n0 Z0 H7 H8 H9) hZ (hw _ (List.mem_of_getElem? (i := 11) rfl)) (hw _ (List.mem_of_getElem? (i := 10) rfl)) (by decide) (by decide)) (g := (mkF m 6 #[.val (.int p457), .val (.ref w462), .unset] [(.ref w462)])) rfl (by rw [hml]; rfl) (argsL := [(.ref w462)]) (rest := []) (lenOf pd_4 rfl) rfl (by show 2 * 0 + _ ≤ _; exact Nat.le_of_eq rfl) (hb hby at_6) (fun _ _ => ⟨rfl, e461, (by decide : 0 + 3 ≤ _), (by decide : 0 + 53 ≤ _)⟩)
  dsimp only [Pt.U, Pt.locs, Pt.cells, Pt.slots] at X513 l513 y513 z513 st513 hQ513 hs513 hg513
  subst l513 y513 z513
  obtain ⟨N513q, b513_0, rfl, ge_b513_0, K513, o513_0, o513_1, o513_2, o513_3, o513_4, o513_5⟩ := hQ513
  have N513 := Fr.app N461 N513q
  have KC513 := KSx.trans (KSx.refl h0 []) K513 ks0
  have hS513 : s.Since T513.vm T513.heap.size := hs513
  have hZ513 : Z.Warmed39 (s.setVm T513.vm).vm := State.Warmed39.trans (t := s) hZ hs513.1
  have ho513 : (s.setVm T513.vm).vm.findClass "com/example/transaction_scopes/transactionscopes/ScopeSettingsOfPinLaw" = some m.cls := by rw [show (s.setVm T513.vm).vm = T513.vm from rfl, hs513.1.alike.findClass]; exact hown
  replace X513 : Stand p l e room_1 (s.setVm T513.vm) m #[(.int p457)] below meth c T513 _ _ _ := X513
  have Z513 : n0 ≤ T513.heap.size := Nat.le_trans Z0 K513.1
  obtain ⟨cq519, kq519, q519a, q519b, q519c⟩ := isOf hZ513 rfl o513_0
  obtain ⟨_, _, ⟨T519, L519, k519, n519⟩, -, X519, ⟨Lc519, hQ519, l519, y519, z519⟩, st519⟩ := X513.virtualBack hx (y := (⟨"com/example/transaction_scopes/transactionscopes/ScopeSettings", "propagation", "()Lcom/example/transaction_scopes/transactionscopes/Propagation;"⟩ : MethodName)) (z := (⟨"com/example/transaction_scopes/transactionscopes/ScopeSettings", "propagation", "()Lcom/example/transaction_scopes/transactionscopes/Propagation;"⟩ : MethodName)) ho513 (mvT hZ513 (hw _ (List.mem_of_getElem? (i := 53) rfl))) (mvT hZ513 (hw _ (List.mem_of_getElem? (i := 54) rfl))) (notFace_of_selects (args := #[]) (mvT hZ513 (hw _ (List.mem_of_getElem? (i := 56) rfl)))) (mvT hZ513 (hw _ (List.mem_of_getElem? (i := 56) rfl))) (mvT hZ513 (hw _ (List.mem_of_getElem? (i := 55) rfl))) (by decide) (backOf (W := 0) (r7_1 l Z a0 hw b513_0 w462 T513.heap n0 Z513 o513_1) hZ513 (hw _ (List.mem_of_getElem? (i := 57) rfl)) (hw _ (List.mem_of_getElem? (i := 10) rfl)) (by decide) (by decide)) q519a q519c (g := (mkF m 17 #[.val (.int p457), .val (.ref w462), .val (.ref b513_0)] [(.ref b513_0)])) rfl (by rw [hml]; rfl) (Steps.refl _) (argsL := []) (rest := []) (lenOf pd_5 rfl) rfl (by show 2 * 0 + _ ≤ _; exact Nat.le_of_eq rfl) (hb hby at_17) (fun _ _ => ⟨rfl, rfl, (by decide : 3 + 0 ≤ _), (by decide : 53 + 0 ≤ _)⟩)
  dsimp only [Pt.U, Pt.locs, Pt.cells, Pt.slots] at X519 l519 y519 z519 st519 hQ519
  subst l519 y519 z519
  obtain ⟨rfl, N519q, e519⟩ := hQ519
  have N519 := Fr.app N513 N519q
  obtain ⟨cq523, kq523, q523a, q523b, q523c⟩ := isOf hZ513 e519 o513_0
  obtain ⟨_, _, ⟨T523, L523, k523, n523⟩, -, X523, ⟨Lc523, hQ523, l523, y523, z523⟩, st523⟩ := X519.virtualBack hx (y := (⟨"com/example/transaction_scopes/transactionscopes/ScopeSettings", "isolation", "()Lcom/example/transaction_scopes/transactionscopes/Isolation;"⟩ : MethodName)) (z := (⟨"com/example/transaction_scopes/transactionscopes/ScopeSettings", "isolation", "()Lcom/example/transaction_scopes/transactionscopes/Isolation;"⟩ : MethodName)) ho513 (mvT hZ513 (hw _ (List.mem_of_getElem? (i := 58) rfl))) (mvT hZ513 (hw _ (List.mem_of_getElem? (i := 59) rfl))) (notFace_of_selects (args := #[]) (mvT hZ513 (hw _ (List.mem_of_getElem? (i := 61) rfl)))) (mvT hZ513 (hw _ (List.mem_of_getElem? (i := 61) rfl))) (mvT hZ513 (hw _ (List.mem_of_getElem? (i := 60) rfl))) (by decide) (backOf (W := 0) (r8_1 l Z a0 hw b513_0 w514 T513.heap n0 Z513 o513_2) hZ513 (hw _ (List.mem_of_getElem? (i := 62) rfl)) (hw _ (List.mem_of_getElem? (i := 10) rfl)) (by decide) (by decide)) q523a q523c (g := (mkF m 25 #[.val (.int p457), .val (.ref w462), .val (.ref b513_0)] [(.ref b513_0)])) rfl (by rw [hml]; rfl) (Steps.refl _) (argsL := []) (rest := []) (lenOf pd_6 rfl) rfl (by show 2 * 0 + _ ≤ _; exact Nat.le_of_eq rfl) (hb hby at_25) (fun _ _ => ⟨rfl, e519, (by decide : 3 + 0 ≤ _), (by decide : 53 + 0 ≤ _)⟩)
  dsimp only [Pt.U, Pt.locs, Pt.cells, Pt.slots] at X523 l523 y523 z523 st523 hQ523
  subst l523 y523 z523
  obtain ⟨rfl, N523q, e523⟩ := hQ523
  have N523 := Fr.app N519 N523q
  have f524 := (H8.ks K513)
  obtain ⟨T525, X525, e525, st525⟩ := getS2 X523 hx hZ513 ho513 (host := "") (Or.inl (hw _ (List.mem_of_getElem? (i := 63) rfl))) Via.refl e523 f524 (g := (mkF m 28 #[.val (.int p457), .val (.ref w462), .val (.ref b513_0)] [(.ref w514)])) rfl (hb hby at_28)
  obtain ⟨cq529, kq529, q529a, q529b, q529c⟩ := isOf hZ513 e525 o513_0
  obtain ⟨_, _, ⟨T529, L529, k529, n529⟩, -, X529, ⟨Lc529, hQ529, l529, y529, z529⟩, st529⟩ := X525.virtualBack hx (y := (⟨"com/example/transaction_scopes/transactionscopes/ScopeSettings", "isReadOnly", "()Z"⟩ : MethodName)) (z := (⟨"com/example/transaction_scopes/transactionscopes/ScopeSettings", "isReadOnly", "()Z"⟩ : MethodName)) ho513 (mvT hZ513 (hw _ (List.mem_of_getElem? (i := 64) rfl))) (mvT hZ513 (hw _ (List.mem_of_getElem? (i := 65) rfl))) (notFace_of_selects (args := #[]) (mvT hZ513 (hw _ (List.mem_of_getElem? (i := 67) rfl)))) (mvT hZ513 (hw _ (List.mem_of_getElem? (i := 67) rfl))) (mvT hZ513 (hw _ (List.mem_of_getElem? (i := 66) rfl))) (by decide) (backOf (W := 0) (r9_1 l Z a0 hw b513_0 (0 : Int32) T513.heap n0 Z513 o513_3 rfl) hZ513 (hw _ (List.mem_of_getElem? (i := 68) rfl)) (hw _ (List.mem_of_getElem? (i := 10) rfl)) (by decide) (by decide)) q529a q529c (g := (mkF m 35 #[.val (.int p457), .val (.ref w462), .val (.ref b513_0)] [(.ref b513_0)])) rfl (by rw [hml]; rfl) (Steps.refl _) (argsL := []) (rest := []) (lenOf pd_7 rfl) rfl (by show 2 * 0 + _ ≤ _; exact Nat.le_of_eq rfl) (hb hby at_35) (fun _ _ => ⟨rfl, e525, (by decide : 3 + 0 ≤ _), (by decide : 53 + 0 ≤ _)⟩)
  dsimp only [Pt.U, Pt.locs, Pt.cells, Pt.slots] at X529 l529 y529 z529 st529 hQ529
  subst l529 y529 z529
  obtain ⟨rfl, N529q, e529⟩ := hQ529
  have N529 := Fr.app N523 N529q
  obtain ⟨cq532, kq532, q532a, q532b, q532c⟩ := isOf hZ513 e529 o513_0
  obtain ⟨_, _, ⟨T532, L532, k532, n532⟩, -, X532, ⟨Lc532, hQ532, l532, y532, z532⟩, st532⟩ := X529.virtualBack hx (y := (⟨"com/example/transaction_scopes/transactionscopes/ScopeSettings", "timeout", "()Ljava/time/Duration;"⟩ : MethodName)) (z := (⟨"com/example/transaction_scopes/transactionscopes/ScopeSettings", "timeout", "()Ljava/time/Duration;"⟩ : MethodName)) ho513 (mvT hZ513 (hw _ (List.mem_of_getElem? (i := 69) rfl))) (mvT hZ513 (hw _ (List.mem_of_getElem? (i := 70) rfl))) (notFace_of_selects (args := #[]) (mvT hZ513 (hw _ (List.mem_of_getElem? (i := 72) rfl)))) (mvT hZ513 (hw _ (List.mem_of_getElem? (i := 72) rfl))) (mvT hZ513 (hw _ (List.mem_of_getElem? (i := 71) rfl))) (by decide) (backOf (W := 0) (r10_1 l Z a0 hw b513_0 T513.heap n0 Z513 o513_4) hZ513 (hw _ (List.mem_of_getElem? (i := 73) rfl)) (hw _ (List.mem_of_getElem? (i := 10) rfl)) (by decide) (by decide)) q532a q532c (g := (mkF m 42 #[.val (.int p457), .val (.ref w462), .val (.ref b513_0)] [(.ref b513_0)])) rfl (by rw [hml]; rfl) (Steps.refl _) (argsL := []) (rest := []) (lenOf pd_8 rfl) rfl (by show 2 * 0 + _ ≤ _; exact Nat.le_of_eq rfl) (hb hby at_42) (fun _ _ => ⟨rfl, e529, (by decide : 3 + 0 ≤ _), (by decide : 53 + 0 ≤ _)⟩)
  dsimp only [Pt.U, Pt.locs, Pt.cells, Pt.slots] at X532 l532 y532 z532 st532 hQ532
  subst l532 y532 z532
  obtain ⟨rfl, N532q, e532⟩ := hQ532
  have N532 := Fr.app N529 N532q
  obtain ⟨fs, hr, hrun, hended, hR1, hR2, hR3, hR4⟩ := X532.leaveW (s := s) hS513 (by rw [e532]; exact (Nat.le_refl _)) (v := some (.int (1 : Int32))) (fun h => by rw [Bd.returns] at h; cases h)
  refine ⟨_, _, pre0 _ ?_, hrun, hended, _, _, rfl, ?_, hR1, hR2, hR3, hR4.mono (by decide) (by decide)⟩
  · show Steps p.tables e below (s₁.setTop (mkF m 0 #[.val (.int p457), .unset, .unset] [])) _
    refine XS.iloadN X0.here hx rfl (hb hby at_0) rfl ?_
    show Steps p.tables e below (s₁.setTop (mkF m 1 #[.val (.int p457), .unset, .unset] [(.int p457)])) _
    refine st461 _ ?_
    show Steps p.tables e below (T461.setTop (mkF m 4 #[.val (.int p457), .unset, .unset] [(.ref w462)])) _
    refine XS.astoreN X461.here hx rfl (hb hby at_4) rfl rfl (l' := #[.val (.int p457), .val (.ref w462), .unset]) rfl ?_
    show Steps p.tables e below (T461.setTop (mkF m 5 #[.val (.int p457), .val (.ref w462), .unset] [])) _
    refine XS.aloadN X461.here hx rfl (hb hby at_5) rfl rfl ?_
    show Steps p.tables e below (T461.setTop (mkF m 6 #[.val (.int p457), .val (.ref w462), .unset] [(.ref w462)])) _
    refine st513.trans ?_
    show Steps p.tables e below (T513.setTop (mkF m 9 #[.val (.int p457), .val (.ref w462), .unset] [(.ref b513_0)])) _
    refine XS.astoreN X513.here hx rfl (hb hby at_9) rfl rfl (l' := #[.val (.int p457), .val (.ref w462), .val (.ref b513_0)]) rfl ?_
    show Steps p.tables e below (T513.setTop (mkF m 10 #[.val (.int p457), .val (.ref w462), .val (.ref b513_0)] [])) _
    refine XS.aloadN X513.here hx rfl (hb hby at_10) rfl rfl ?_
    show Steps p.tables e below (T513.setTop (mkF m 11 #[.val (.int p457), .val (.ref w462), .val (.ref b513_0)] [(.ref b513_0)])) _
    refine XS.ifnonnullYes X513.here hx rfl (pc0 := 11) (pc' := 16) rfl (hb hby at_11) rfl (by decide) (by decide) ?_
    show Steps p.tables e below (T513.setTop (mkF m 16 #[.val (.int p457), .val (.ref w462), .val (.ref b513_0)] [])) _
    refine XS.aloadN X513.here hx rfl (hb hby at_16) rfl rfl ?_
    show Steps p.tables e below (T513.setTop (mkF m 17 #[.val (.int p457), .val (.ref w462), .val (.ref b513_0)] [(.ref b513_0)])) _
    refine st519.trans ?_
    show Steps p.tables e below (T519.setTop (mkF m 20 #[.val (.int p457), .val (.ref w462), .val (.ref b513_0)] [(.ref w462)])) _
    refine XS.aloadN X519.here hx rfl (hb hby at_20) rfl rfl ?_
    show Steps p.tables e below (T519.setTop (mkF m 21 #[.val (.int p457), .val (.ref w462), .val (.ref b513_0)] [(.ref w462), (.ref w462)])) _
    refine Jvm.RoadKit.acmp (g := (mkF m 21 #[.val (.int p457), .val (.ref w462), .val (.ref b513_0)] [(.ref w462), (.ref w462)])) X519 hx rfl rfl rfl (pc0 := 21) (pc' := 24) (same := true) rfl (hb hby at_21) rfl (decide_eq_true rfl) (by decide) (by decide) ?_
    show Steps p.tables e below (T519.setTop (mkF m 24 #[.val (.int p457), .val (.ref w462), .val (.ref b513_0)] [])) _
    refine XS.aloadN X519.here hx rfl (hb hby at_24) rfl rfl ?_
    show Steps p.tables e below (T519.setTop (mkF m 25 #[.val (.int p457), .val (.ref w462), .val (.ref b513_0)] [(.ref b513_0)])) _
    refine st523.trans ?_
    show Steps p.tables e below (T523.setTop (mkF m 28 #[.val (.int p457), .val (.ref w462), .val (.ref b513_0)] [(.ref w514)])) _
    refine st525 _ ?_
    show Steps p.tables e below (T525.setTop (mkF m 31 #[.val (.int p457), .val (.ref w462), .val (.ref b513_0)] [(.ref w514), (.ref w514)])) _
    refine Jvm.RoadKit.acmp (g := (mkF m 31 #[.val (.int p457), .val (.ref w462), .val (.ref b513_0)] [(.ref w514), (.ref w514)])) X525 hx rfl rfl rfl (pc0 := 31) (pc' := 34) (same := true) rfl (hb hby at_31) rfl (decide_eq_true rfl) (by decide) (by decide) ?_
    show Steps p.tables e below (T525.setTop (mkF m 34 #[.val (.int p457), .val (.ref w462), .val (.ref b513_0)] [])) _
    refine XS.aloadN X525.here hx rfl (hb hby at_34) rfl rfl ?_
    show Steps p.tables e below (T525.setTop (mkF m 35 #[.val (.int p457), .val (.ref w462), .val (.ref b513_0)] [(.ref b513_0)])) _
    refine st529.trans ?_
    show Steps p.tables e below (T529.setTop (mkF m 38 #[.val (.int p457), .val (.ref w462), .val (.ref b513_0)] [(.int (0 : Int32))])) _
    refine XS.ifNo X529.here hx rfl (hb hby at_38) rfl ((if0 _ _).trans (teq (rfl : (0 : Int32) = (0 : Int32))).2) ?_
    show Steps p.tables e below (T529.setTop (mkF m 41 #[.val (.int p457), .val (.ref w462), .val (.ref b513_0)] [])) _
    refine XS.aloadN X529.here hx rfl (hb hby at_41) rfl rfl ?_
    show Steps p.tables e below (T529.setTop (mkF m 42 #[.val (.int p457), .val (.ref w462), .val (.ref b513_0)] [(.ref b513_0)])) _
    refine st532.trans ?_
    show Steps p.tables e below (T532.setTop (mkF m 45 #[.val (.int p457), .val (.ref w462), .val (.ref b513_0)] [.null])) _
    refine XS.ifnonnullNo X532.here hx rfl (hb hby at_45) rfl ?_
    show Steps p.tables e below (T532.setTop (mkF m 48 #[.val (.int p457), .val (.ref w462), .val (.ref b513_0)] [])) _
    refine XS.iconst X532.here hx rfl (hb hby at_48) ?_
    show Steps p.tables e below (T532.setTop (mkF m 49 #[.val (.int p457), .val (.ref w462), .val (.ref b513_0)] [(.int (1 : Int32))])) _
    refine XS.goto X532.here hx rfl (pc0 := 49) (pc' := 53) rfl (hb hby at_49) (by decide) (by decide) ?_
    show Steps p.tables e below (T532.setTop (mkF m 53 #[.val (.int p457), .val (.ref w462), .val (.ref b513_0)] [(.int (1 : Int32))])) _
    exact retN X532 hx (t := .boolean) Bd.returns (by simp) (hb hby at_53) hr
  · show OQl (some (.int (1 : Int32))) n0 _ T532.heap _
    exact ⟨rfl, N532⟩
set_option maxRecDepth 65536 in
set_option maxHeartbeats 40000000 in
theorem comes_1 {Post : Tables → Env → Array Value → State → Outcome → State → Prop} (hpost : ∀ tb e args s v u, (limb_1_1.after args s (.returned v) u = true ∧ limb_1_2.after args s (.returned v) u = true ∧ True) → ReturnedEndW s (.returned v) u (Jvm.fieldLocs frame_1_writes args s ++ Jvm.arrayLocs frame_1_arrays args s ++ Jvm.staticLocs frame_1_statics s) 16 1152 → Post tb e args s (.returned v) u) :
    ArmFor flags0 classFile x code maxLocals ret World_1 tables_1 room_1 Calls_1 rest_1 Pre_1 Post := by
  intro l hfl _ _ p e ha hc hk s m args below hf hA hF happ hP
  obtain ⟨hcalls, hrest, hpre⟩ := hP
  obtain ⟨-, -, -, hnamed, -, -, -, hat⟩ := (Spec.applies_iff hf).mp happ
  obtain ⟨hg, hn⟩ := and_e (Cond.before_iff.mp (show (Jvm.Cond.and given_1 narrow_1).before args s = true from hpre))
  obtain ⟨gg0, gr0⟩ := and_e hg
  obtain ⟨w0, rfl⟩ : ∃ w0 : Value, args = #[w0] := by
    have hs : args.size = 1 := by simpa [Cond.value, given_1] using gg0
    obtain ⟨L⟩ := args
    match L, hs with
    | [w0], _ => exact ⟨w0, rfl⟩
  have hw := fun d (hd : d ∈ tables_1) => atoms_spec (ws := Jvm.Cond.code x code maxLocals ret :: tables_1) hat d (List.mem_cons_of_mem _ hd)
  have hfit : Fit s := fun {y c} hc i hi => by
    obtain ⟨ha, rfl⟩ := Array.getElem?_eq_some_iff.mp hc
    have q := List.all_eq_true.mp ((Array.all_eq_true_iff_forall_mem.mp hF) _ (Array.getElem_mem ha)) i (List.mem_range.mpr hi)
    simpa [Array.getElem?_eq_getElem hi] using q
  obtain ⟨i0, ei0⟩ := is_v gr0
  obtain rfl : w0 = (.int i0) := Option.some.inj ei0
  obtain ⟨hsets, hown0⟩ := atoms_of _ (rest_1_c_eq ▸ (show rest_1_c.before _ s = true from hrest))
  obtain ⟨hn1, hn2⟩ := and_e hn
  obtain ⟨hn3, hn4⟩ := and_e hn2
  obtain ⟨hn5, hn6⟩ := and_e hn4
  obtain ⟨hn7, hn8⟩ := and_e hn6
  obtain ⟨hn9, hn10⟩ := and_e hn8
  obtain ⟨hn11, hn12⟩ := and_e hn10
  obtain ⟨hn13, hn14⟩ := and_e hn12
  obtain ⟨w_c15, ev_c15⟩ := exa_v hn1
  have E_c15 := Exa.start ev_c15 hn1
  have S_c15 := Sta.start ev_c15 (Or.inr ⟨(hw _ (List.mem_of_getElem? (i := 6) rfl)), (hw _ (List.mem_of_getElem? (i := 7) rfl))⟩)
  obtain ⟨w_c16, ev_c16⟩ := exa_v hn3
  have E_c16 := Exa.start ev_c16 hn3
  have S_c16 := Sta.start ev_c16 (Or.inr ⟨(hw _ (List.mem_of_getElem? (i := 29) rfl)), (hw _ (List.mem_of_getElem? (i := 30) rfl))⟩)
  obtain ⟨w_c17, ev_c17⟩ := exa_v hn5
  have E_c17 := Exa.start ev_c17 hn5
  have S_c17 := Sta.start ev_c17 (Or.inr ⟨(hw _ (List.mem_of_getElem? (i := 6) rfl)), (hw _ (List.mem_of_getElem? (i := 75) rfl))⟩)
  obtain ⟨w_c18, ev_c18⟩ := exa_v hn7
  have E_c18 := Exa.start ev_c18 hn7
  have S_c18 := Sta.start ev_c18 (Or.inr ⟨(hw _ (List.mem_of_getElem? (i := 6) rfl)), (hw _ (List.mem_of_getElem? (i := 77) rfl))⟩)
  obtain ⟨w_c19, ev_c19⟩ := exa_v hn9
  have E_c19 := Exa.start ev_c19 hn9
  have S_c19 := Sta.start ev_c19 (Or.inr ⟨(hw _ (List.mem_of_getElem? (i := 6) rfl)), (hw _ (List.mem_of_getElem? (i := 79) rfl))⟩)
  obtain ⟨w_c20, ev_c20⟩ := exa_v hn11
  have E_c20 := Exa.start ev_c20 hn11
  have S_c20 := Sta.start ev_c20 (Or.inr ⟨(hw _ (List.mem_of_getElem? (i := 6) rfl)), (hw _ (List.mem_of_getElem? (i := 81) rfl))⟩)
  obtain ⟨w_c21, ev_c21⟩ := exa_v hn13
  have E_c21 := Exa.start ev_c21 hn13
  have S_c21 := Sta.start ev_c21 (Or.inr ⟨(hw _ (List.mem_of_getElem? (i := 6) rfl)), (hw _ (List.mem_of_getElem? (i := 83) rfl))⟩)
  obtain ⟨w_c22, ev_c22⟩ := exa_v hn14
  have E_c22 := Exa.start ev_c22 hn14
  have S_c22 := Sta.start ev_c22 (Or.inr ⟨(hw _ (List.mem_of_getElem? (i := 6) rfl)), (hw _ (List.mem_of_getElem? (i := 85) rfl))⟩)
  obtain ⟨w_c23, ev_c23⟩ := exa_v (Cond.before_iff.mp (hsets _ (List.mem_of_getElem? (i := 2) rfl)))
  have E_c23 := Exa.start ev_c23 (Cond.before_iff.mp (hsets _ (List.mem_of_getElem? (i := 2) rfl)))
  have S_c23 := Sta.start ev_c23 (Or.inl (hsets _ (List.mem_of_getElem? (i := 1) rfl)))
  obtain ⟨w_c24, ev_c24⟩ := exa_v (Cond.before_iff.mp (hsets _ (List.mem_of_getElem? (i := 4) rfl)))
  have E_c24 := Exa.start ev_c24 (Cond.before_iff.mp (hsets _ (List.mem_of_getElem? (i := 4) rfl)))
  have F_c24 : Fld s s.heap w_c23 "java/util/ImmutableCollections$MapN" "table" "[Ljava/lang/Object;" (.ref w_c24) := Fld.start (by rw [← fld_at ev_c23]; exact ev_c24)
  have F25 := own_fi ev_c23 (Cond.before_iff.mp (hsets _ (List.mem_of_getElem? (i := 6) rfl)))
  obtain ⟨cl_r26, Ar_r26⟩ := Arr.start ev_c24 (Cond.before_iff.mp (hsets _ (List.mem_of_getElem? (i := 3) rfl)))
  have L_r26 := own_len ev_c24 Ar_r26 (Cond.before_iff.mp (hsets _ (List.mem_of_getElem? (i := 5) rfl)))
  have V_r26 : Arv s s.heap w_c24 cl_r26.cls (.object "java/lang/Object") (0 : Int32) [] .null := Arv.start hfit Ar_r26 L_r26.1 L_r26.2 (by decide) rfl trivial
  suffices M : OMetS l s x code maxLocals ret tables_1 room_1 s.heap #[(.int i0)] (OQl (some (.int (1 : Int32))) s.heap.size) by
    obtain ⟨n, o, h1, h2, h3, _, L, rfl, ⟨rfl, N⟩, hq1, hq2, hq3, hq4⟩ := M p e ha hc hk s m _ below hf ((Spec.applies_iff_loose hf).mp happ).1 ⟨rfl, State.Warmed39.refl s, rfl⟩ trivial
    exact ⟨n, _, h1, h2, h3, hpost _ _ _ _ _ _ ⟨Cond.after_iff.mpr rfl, Cond.after_iff.mpr (eq_i res_at (Term.int_eval (1)) rfl), trivial⟩ ⟨hq1, hq2, hq3, (hq4.sift fun y hy => Or.inr (N y hy)).mono (by decide) (by decide)⟩⟩
  have hm_hq : ((i0 &&& (2147483647 : Int32)) % (7 : Int32)) = (0 : Int32) ∨ ((i0 &&& (2147483647 : Int32)) % (7 : Int32)) = (1 : Int32) ∨ ((i0 &&& (2147483647 : Int32)) % (7 : Int32)) = (2 : Int32) ∨ ((i0 &&& (2147483647 : Int32)) % (7 : Int32)) = (3 : Int32) ∨ ((i0 &&& (2147483647 : Int32)) % (7 : Int32)) = (4 : Int32) ∨ ((i0 &&& (2147483647 : Int32)) % (7 : Int32)) = (5 : Int32) ∨ ((i0 &&& (2147483647 : Int32)) % (7 : Int32)) = (6 : Int32) := by
    obtain ⟨q1, q2⟩ := own_mod i0 (7 : Int32) (by decide)
    have q3 : (7 : Int32).toInt = 7 := by decide
    rw [q3] at q2
    generalize ((i0 &&& (2147483647 : Int32)) % (7 : Int32)) = z at q1 q2 ⊢
    have q4 : z.toInt = 0 ∨ z.toInt = 1 ∨ z.toInt = 2 ∨ z.toInt = 3 ∨ z.toInt = 4 ∨ z.toInt = 5 ∨ z.toInt = 6 := by omega
    rcases q4 with q | q | q | q | q | q | q <;> simp [← Int32.toInt_inj, q]
  rcases hm_hq with hq | hq | hq | hq | hq | hq | hq
  · exact r0_1 l s _ hw i0 w_c15 w_c16 w_c23 s.heap s.heap.size (Nat.le_refl _) (by rw [hq] <;> decide) S_c15 E_c15 S_c16 S_c23
  · exact r0_2 l s _ hw i0 w_c22 w_c16 w_c23 s.heap s.heap.size (Nat.le_refl _) (by rw [hq] <;> decide) (by rw [hq] <;> decide) S_c22 E_c22 S_c16 S_c23
  · exact r0_3 l s _ hw i0 w_c21 w_c16 w_c23 s.heap s.heap.size (Nat.le_refl _) (by rw [hq] <;> decide) (by rw [hq] <;> decide) (by rw [hq] <;> decide) S_c21 E_c21 S_c16 S_c23
  · exact r0_4 l s _ hw i0 w_c17 w_c16 w_c23 s.heap s.heap.size (Nat.le_refl _) (by rw [hq] <;> decide) (by rw [hq] <;> decide) (by rw [hq] <;> decide) (by rw [hq] <;> decide) S_c17 E_c17 S_c16 S_c23
  · exact r0_5 l s _ hw i0 w_c20 w_c16 w_c23 s.heap s.heap.size (Nat.le_refl _) (by rw [hq] <;> decide) (by rw [hq] <;> decide) (by rw [hq] <;> decide) (by rw [hq] <;> decide) (by rw [hq] <;> decide) S_c20 E_c20 S_c16 S_c23
  · exact r0_6 l s _ hw i0 w_c18 w_c16 w_c23 s.heap s.heap.size (Nat.le_refl _) (by rw [hq] <;> decide) (by rw [hq] <;> decide) (by rw [hq] <;> decide) (by rw [hq] <;> decide) (by rw [hq] <;> decide) (by rw [hq] <;> decide) S_c18 E_c18 S_c16 S_c23
  · exact r0_7 l s _ hw i0 w_c19 w_c16 w_c23 s.heap s.heap.size (Nat.le_refl _) (by rw [hq] <;> decide) (by rw [hq] <;> decide) (by rw [hq] <;> decide) (by rw [hq] <;> decide) (by rw [hq] <;> decide) (by rw [hq] <;> decide) S_c19 E_c19 S_c16 S_c23
theorem main_1_1 : Claimed_1_1 := comes_1 fun _ _ _ _ _ _ h hF => ⟨h.1, hF⟩
theorem main_1_2 : Claimed_1_2 := comes_1 fun _ _ _ _ _ _ h hF => ⟨h.2.1, hF⟩
end Jvm.Pilot.@@N@@
namespace Jvm.Pilot.@@N@@
open Jvm Jvm.ClassFile Sem Op Lib Jvm.Free Jvm.Stand Jvm.Pilot.@@N@@.Jvm.D
/-! MADE BY PROGRAM (witnessworld.py) out of the Statement's table words and the real class files: 24 classes; the members and pool entries that the words name. The judged class is class 1, her method 2. -/
namespace start1
open Jvm.ClassFile
def u (s : String) : CpInfo := .utf8 (stringToUtf16 s)
/-- a pool by its gaps: so many unusable entries, then the entry; so many at the end -/
def gap : Nat → List CpInfo → List CpInfo
  | 0, r => r
  | n + 1, r => .unusable :: gap n r
def poolList (es : List (Nat × CpInfo)) (last : Nat) : List CpInfo := es.foldr (fun e r => gap e.1 (e.2 :: r)) (gap last [])
def pool (es : List (Nat × CpInfo)) (last : Nat) : Array CpInfo := ⟨poolList es last⟩
def fileOf (pool : Array CpInfo) (this : Nat) (attrs : Array Attribute := #[]) (ms : Array MethodInfo := #[]) (fl : Nat := 33) (sup : Nat := 0) (ifs : Array Nat := #[]) (fds : Array FieldInfo := #[]) : ClassFile where
  minorVersion := 0
  majorVersion := 65
  constantPool := pool
  accessFlags := fl
  thisClass := this
  superClass := sup
  interfaces := ifs
  fields := fds
  methods := ms
  attributes := attrs
def plain (name : String) (sup : Option ClassId) : Class where
  name := name
  kind := .ordinary
  loader := none
  accessFlags := 33
  super := sup
  interfaces := #[]
  cf := none
  fields := #[]
  methods := #[]
  instanceTypes := #[]
  staticTypes := #[]
  resolved := #[]
  callSites := []
  init := .initialized
  statics := none
  mirror := none

def pool0 : Array CpInfo := pool [(5, u "<init>"), (0, u "()V"), (1, .class_ 10), (1, u "java/lang/Object")] 113

def k0c0 : Code := { maxStack := 0, maxLocals := 1, code := object_method_1_code, exceptionTable := #[], attributes := #[] }
def k0m0 : Method := { name := "<init>", desc := "()V", sig := { parameters := [], returnType := none }, accessFlags := 1, code := some k0c0 }
/-- java/lang/Object -/
def k0 : Class := { plain "java/lang/Object" none with
  accessFlags := 33
  interfaces := #[]
  cf := some (fileOf pool0 8 #[] #[{ accessFlags := 1, nameIndex := 5, descriptorIndex := 6, attributes := #[] }] 33 0 #[] #[])
  fields := #[]
  methods := #[k0m0]
  instanceTypes := #[]
  staticTypes := #[]
  resolved := Array.replicate 124 none
  statics := none }

def pool1 : Array CpInfo := pool [(2, .class_ 4), (1, u "java/lang/Object"), (0, u "<init>"), (0, u "()V"), (0, .integer 2147483647), (0, .fieldref 9 10), (0, .class_ 11), (0, .nameAndType 12 13), (0, u "com/example/transaction_scopes/transactionscopes/Propagation"), (0, u "REQUIRED"), (0, u "Lcom/example/transaction_scopes/transactionscopes/Propagation;"), (0, .fieldref 9 15), (0, .nameAndType 16 13), (0, u "SUPPORTS"), (0, .fieldref 9 18), (0, .nameAndType 19 13), (0, u "MANDATORY"), (0, .fieldref 9 21), (0, .nameAndType 22 13), (0, u "REQUIRES_NEW"), (0, .fieldref 9 24), (0, .nameAndType 25 13), (0, u "NOT_SUPPORTED"), (0, .fieldref 9 27), (0, .nameAndType 28 13), (0, u "NEVER"), (0, .fieldref 9 30), (0, .nameAndType 31 13), (0, u "NESTED"), (0, .methodref 33 34), (0, .class_ 35), (0, .nameAndType 36 37), (0, u "com/example/transaction_scopes/transactionscopes/ScopeSettingsOfPinLaw"), (0, u "pick"), (0, u "(I)Lcom/example/transaction_scopes/transactionscopes/Propagation;"), (0, .methodref 39 40), (0, .class_ 41), (0, .nameAndType 42 43), (0, u "com/example/transaction_scopes/transactionscopes/ScopeSettings"), (0, u "of"), (0, u "(Lcom/example/transaction_scopes/transactionscopes/Propagation;)Lcom/example/transaction_scopes/transactionscopes/ScopeSettings;"), (0, .methodref 39 45), (0, .nameAndType 46 47), (0, u "propagation"), (0, u "()Lcom/example/transaction_scopes/transactionscopes/Propagation;"), (0, .methodref 39 49), (0, .nameAndType 50 51), (0, u "isolation"), (0, u "()Lcom/example/transaction_scopes/transactionscopes/Isolation;"), (0, .fieldref 53 54), (0, .class_ 55), (0, .nameAndType 56 57), (0, u "com/example/transaction_scopes/transactionscopes/Isolation"), (0, u "DEFAULT"), (0, u "Lcom/example/transaction_scopes/transactionscopes/Isolation;"), (0, .methodref 39 59), (0, .nameAndType 60 61), (0, u "isReadOnly"), (0, u "()Z"), (0, .methodref 39 63), (0, .nameAndType 64 65), (0, u "timeout"), (0, u "()Ljava/time/Duration;"), (3, u "law"), (0, u "(I)Z")] 2

def k1m0 : Method := { name := "<init>", desc := "()V", sig := { parameters := [], returnType := none }, accessFlags := 2, code := none }
def k1c1 : Code := { maxStack := 2, maxLocals := 2, code := method_2_code, exceptionTable := #[], attributes := #[] }
def k1m1 : Method := { name := "pick", desc := "(I)Lcom/example/transaction_scopes/transactionscopes/Propagation;", sig := { parameters := [.int], returnType := some (.object "com/example/transaction_scopes/transactionscopes/Propagation") }, accessFlags := 10, code := some k1c1 }
def k1c2 : Code := { maxStack := 2, maxLocals := 3, code := code, exceptionTable := #[], attributes := #[] }
def k1m2 : Method := { name := "law", desc := "(I)Z", sig := { parameters := [.int], returnType := some .boolean }, accessFlags := 9, code := some k1c2 }
/-- com/example/transaction_scopes/transactionscopes/ScopeSettingsOfPinLaw -/
def k1 : Class := { plain "com/example/transaction_scopes/transactionscopes/ScopeSettingsOfPinLaw" (some 0) with
  accessFlags := 49
  interfaces := #[]
  cf := some (fileOf pool1 33 #[] #[{ accessFlags := 2, nameIndex := 5, descriptorIndex := 6, attributes := #[] }, { accessFlags := 10, nameIndex := 36, descriptorIndex := 37, attributes := #[] }, { accessFlags := 9, nameIndex := 69, descriptorIndex := 70, attributes := #[] }] 49 2 #[] #[])
  fields := #[]
  methods := #[k1m0, k1m1, k1m2]
  instanceTypes := #[]
  staticTypes := #[]
  resolved := Array.replicate 73 none
  statics := none }

def pool2 : Array CpInfo := pool [(1, .class_ 2), (0, u "java/lang/constant/Constable"), (0, .class_ 4), (0, u "java/lang/Object")] 6

/-- java/lang/constant/Constable -/
def k2 : Class := { plain "java/lang/constant/Constable" (some 0) with
  accessFlags := 1537
  interfaces := #[]
  cf := some (fileOf pool2 1 #[] #[] 1537 3 #[] #[])
  fields := #[]
  methods := #[]
  instanceTypes := #[]
  staticTypes := #[]
  resolved := Array.replicate 11 none
  statics := none }

def pool3 : Array CpInfo := pool [(1, .class_ 2), (0, u "java/lang/Comparable"), (0, .class_ 4), (0, u "java/lang/Object")] 7

/-- java/lang/Comparable -/
def k3 : Class := { plain "java/lang/Comparable" (some 0) with
  accessFlags := 1537
  interfaces := #[]
  cf := some (fileOf pool3 1 #[] #[] 1537 3 #[] #[])
  fields := #[]
  methods := #[]
  instanceTypes := #[]
  staticTypes := #[]
  resolved := Array.replicate 12 none
  statics := none }

def pool4 : Array CpInfo := pool [(1, .class_ 2), (0, u "java/io/Serializable"), (0, .class_ 4), (0, u "java/lang/Object")] 2

/-- java/io/Serializable -/
def k4 : Class := { plain "java/io/Serializable" (some 0) with
  accessFlags := 1537
  interfaces := #[]
  cf := some (fileOf pool4 1 #[] #[] 1537 3 #[] #[])
  fields := #[]
  methods := #[]
  instanceTypes := #[]
  staticTypes := #[]
  resolved := Array.replicate 7 none
  statics := none }

def pool5 : Array CpInfo := pool [(2, .class_ 4), (1, u "java/lang/Enum"), (0, u "name"), (0, u "Ljava/lang/String;"), (2, u "ordinal"), (0, u "I"), (1, .class_ 14), (1, u "java/lang/Object"), (4, u "hash"), (86, .class_ 108), (1, u "java/lang/Enum$EnumDesc"), (2, .class_ 112), (0, u "java/lang/constant/Constable"), (0, .class_ 114), (0, u "java/lang/Comparable"), (0, .class_ 116), (0, u "java/io/Serializable")] 87

/-- java/lang/Enum -/
def k5 : Class := { plain "java/lang/Enum" (some 0) with
  accessFlags := 1057
  interfaces := #[2, 3, 4]
  cf := some (fileOf pool5 2 #[.nestMembers #[106]] #[] 1057 12 #[111, 113, 115] #[{ accessFlags := 18, nameIndex := 5, descriptorIndex := 6, attributes := #[] }, { accessFlags := 18, nameIndex := 9, descriptorIndex := 10, attributes := #[] }, { accessFlags := 2, nameIndex := 19, descriptorIndex := 10, attributes := #[] }])
  fields := #[{ name := "name", type := (.object "java/lang/String"), accessFlags := 18, slot := 0, constantValue := 0 }, { name := "ordinal", type := .int, accessFlags := 18, slot := 1, constantValue := 0 }, { name := "hash", type := .int, accessFlags := 2, slot := 2, constantValue := 0 }]
  methods := #[]
  instanceTypes := #[(.object "java/lang/String"), .int, .int]
  staticTypes := #[]
  resolved := Array.replicate 204 none
  statics := none }

def pool6 : Array CpInfo := pool [(1, .class_ 2), (0, u "com/example/transaction_scopes/transactionscopes/Propagation"), (2, u "REQUIRED"), (0, u "Lcom/example/transaction_scopes/transactionscopes/Propagation;"), (2, u "SUPPORTS"), (2, u "MANDATORY"), (2, u "REQUIRES_NEW"), (2, u "NOT_SUPPORTED"), (2, u "NEVER"), (2, u "NESTED"), (2, u "$VALUES"), (0, u "[Lcom/example/transaction_scopes/transactionscopes/Propagation;"), (6, .class_ 37), (1, u "java/lang/Enum"), (8, u "withTransaction"), (0, u "Lcom/example/transaction_scopes/transactionscopes/Propagation$Conduct;"), (2, u "withoutTransaction"), (2, .class_ 55), (1, u "com/example/transaction_scopes/transactionscopes/Propagation$Conduct")] 44

/-- com/example/transaction_scopes/transactionscopes/Propagation -/
def k6 : Class := { plain "com/example/transaction_scopes/transactionscopes/Propagation" (some 5) with
  accessFlags := 16433
  interfaces := #[]
  cf := some (fileOf pool6 1 #[.nestMembers #[53]] #[] 16433 35 #[] #[{ accessFlags := 16409, nameIndex := 5, descriptorIndex := 6, attributes := #[] }, { accessFlags := 16409, nameIndex := 9, descriptorIndex := 6, attributes := #[] }, { accessFlags := 16409, nameIndex := 12, descriptorIndex := 6, attributes := #[] }, { accessFlags := 16409, nameIndex := 15, descriptorIndex := 6, attributes := #[] }, { accessFlags := 16409, nameIndex := 18, descriptorIndex := 6, attributes := #[] }, { accessFlags := 16409, nameIndex := 21, descriptorIndex := 6, attributes := #[] }, { accessFlags := 16409, nameIndex := 24, descriptorIndex := 6, attributes := #[] }, { accessFlags := 18, nameIndex := 46, descriptorIndex := 47, attributes := #[] }, { accessFlags := 18, nameIndex := 50, descriptorIndex := 47, attributes := #[] }, { accessFlags := 4122, nameIndex := 27, descriptorIndex := 28, attributes := #[] }])
  fields := #[{ name := "REQUIRED", type := (.object "com/example/transaction_scopes/transactionscopes/Propagation"), accessFlags := 16409, slot := 0, constantValue := 0 }, { name := "SUPPORTS", type := (.object "com/example/transaction_scopes/transactionscopes/Propagation"), accessFlags := 16409, slot := 1, constantValue := 0 }, { name := "MANDATORY", type := (.object "com/example/transaction_scopes/transactionscopes/Propagation"), accessFlags := 16409, slot := 2, constantValue := 0 }, { name := "REQUIRES_NEW", type := (.object "com/example/transaction_scopes/transactionscopes/Propagation"), accessFlags := 16409, slot := 3, constantValue := 0 }, { name := "NOT_SUPPORTED", type := (.object "com/example/transaction_scopes/transactionscopes/Propagation"), accessFlags := 16409, slot := 4, constantValue := 0 }, { name := "NEVER", type := (.object "com/example/transaction_scopes/transactionscopes/Propagation"), accessFlags := 16409, slot := 5, constantValue := 0 }, { name := "NESTED", type := (.object "com/example/transaction_scopes/transactionscopes/Propagation"), accessFlags := 16409, slot := 6, constantValue := 0 }, { name := "withTransaction", type := (.object "com/example/transaction_scopes/transactionscopes/Propagation$Conduct"), accessFlags := 18, slot := 3, constantValue := 0 }, { name := "withoutTransaction", type := (.object "com/example/transaction_scopes/transactionscopes/Propagation$Conduct"), accessFlags := 18, slot := 4, constantValue := 0 }, { name := "$VALUES", type := (.array (.object "com/example/transaction_scopes/transactionscopes/Propagation")), accessFlags := 4122, slot := 7, constantValue := 0 }]
  methods := #[]
  instanceTypes := #[(.object "java/lang/String"), .int, .int, (.object "com/example/transaction_scopes/transactionscopes/Propagation$Conduct"), (.object "com/example/transaction_scopes/transactionscopes/Propagation$Conduct")]
  staticTypes := #[(.object "com/example/transaction_scopes/transactionscopes/Propagation"), (.object "com/example/transaction_scopes/transactionscopes/Propagation"), (.object "com/example/transaction_scopes/transactionscopes/Propagation"), (.object "com/example/transaction_scopes/transactionscopes/Propagation"), (.object "com/example/transaction_scopes/transactionscopes/Propagation"), (.object "com/example/transaction_scopes/transactionscopes/Propagation"), (.object "com/example/transaction_scopes/transactionscopes/Propagation"), (.array (.object "com/example/transaction_scopes/transactionscopes/Propagation"))]
  resolved := Array.replicate 100 none
  statics := some 0 }

def pool7 : Array CpInfo := pool [(1, .methodref 2 3), (0, .class_ 4), (0, .nameAndType 5 6), (0, u "java/lang/Object"), (0, u "<init>"), (0, u "()V"), (0, .fieldref 8 9), (0, .class_ 10), (0, .nameAndType 11 12), (0, u "com/example/transaction_scopes/transactionscopes/ScopeSettings"), (0, u "propagation"), (0, u "Lcom/example/transaction_scopes/transactionscopes/Propagation;"), (0, .fieldref 8 14), (0, .nameAndType 15 16), (0, u "isolation"), (0, u "Lcom/example/transaction_scopes/transactionscopes/Isolation;"), (0, .fieldref 8 18), (0, .nameAndType 19 20), (0, u "readOnly"), (0, u "Z"), (0, .fieldref 8 22), (0, .nameAndType 23 24), (0, u "timeout"), (0, u "Ljava/time/Duration;"), (0, .fieldref 8 26), (0, .nameAndType 27 28), (0, u "rules"), (0, u "Ljava/util/Map;"), (0, .string 11), (0, .methodref 31 32), (0, .class_ 33), (0, .nameAndType 34 35), (0, u "java/util/Objects"), (0, u "requireNonNull"), (0, u "(Ljava/lang/Object;Ljava/lang/String;)Ljava/lang/Object;"), (0, .class_ 37), (0, u "com/example/transaction_scopes/transactionscopes/Propagation"), (0, .fieldref 39 40), (0, .class_ 41), (0, .nameAndType 42 16), (0, u "com/example/transaction_scopes/transactionscopes/Isolation"), (0, u "DEFAULT"), (0, .interfaceMethodref 44 45), (0, .class_ 46), (0, .nameAndType 47 48), (0, u "java/util/Map"), (0, u "of"), (0, u "()Ljava/util/Map;"), (0, .methodref 8 50), (0, .nameAndType 5 51), (0, u "(Lcom/example/transaction_scopes/transactionscopes/Propagation;Lcom/example/transaction_scopes/transactionscopes/Isolation;ZLjava/time/Duration;Ljava/util/Map;)V"), (2, u "REQUIRED"), (0, u "Lcom/example/transaction_scopes/transactionscopes/ScopeSettings;"), (16, u "()Lcom/example/transaction_scopes/transactionscopes/Propagation;"), (2, u "(Lcom/example/transaction_scopes/transactionscopes/Propagation;)Lcom/example/transaction_scopes/transactionscopes/ScopeSettings;"), (2, u "()Lcom/example/transaction_scopes/transactionscopes/Isolation;"), (18, u "()Z"), (23, u "LONGEST_TIMEOUT"), (91, u "isReadOnly"), (0, u "()Ljava/time/Duration;")] 24

def k7c0 : Code := { maxStack := 2, maxLocals := 6, code := prog_12_method_1_code, exceptionTable := #[], attributes := #[] }
def k7m0 : Method := { name := "<init>", desc := "(Lcom/example/transaction_scopes/transactionscopes/Propagation;Lcom/example/transaction_scopes/transactionscopes/Isolation;ZLjava/time/Duration;Ljava/util/Map;)V", sig := { parameters := [(.object "com/example/transaction_scopes/transactionscopes/Propagation"), (.object "com/example/transaction_scopes/transactionscopes/Isolation"), .boolean, (.object "java/time/Duration"), (.object "java/util/Map")], returnType := none }, accessFlags := 2, code := some k7c0 }
def k7c1 : Code := { maxStack := 7, maxLocals := 1, code := prog_12_method_2_code, exceptionTable := #[], attributes := #[] }
def k7m1 : Method := { name := "of", desc := "(Lcom/example/transaction_scopes/transactionscopes/Propagation;)Lcom/example/transaction_scopes/transactionscopes/ScopeSettings;", sig := { parameters := [(.object "com/example/transaction_scopes/transactionscopes/Propagation")], returnType := some (.object "com/example/transaction_scopes/transactionscopes/ScopeSettings") }, accessFlags := 9, code := some k7c1 }
def k7c2 : Code := { maxStack := 1, maxLocals := 1, code := prog_12_method_11_code, exceptionTable := #[], attributes := #[] }
def k7m2 : Method := { name := "propagation", desc := "()Lcom/example/transaction_scopes/transactionscopes/Propagation;", sig := { parameters := [], returnType := some (.object "com/example/transaction_scopes/transactionscopes/Propagation") }, accessFlags := 0, code := some k7c2 }
def k7c3 : Code := { maxStack := 1, maxLocals := 1, code := prog_12_method_12_code, exceptionTable := #[], attributes := #[] }
def k7m3 : Method := { name := "isolation", desc := "()Lcom/example/transaction_scopes/transactionscopes/Isolation;", sig := { parameters := [], returnType := some (.object "com/example/transaction_scopes/transactionscopes/Isolation") }, accessFlags := 0, code := some k7c3 }
def k7c4 : Code := { maxStack := 1, maxLocals := 1, code := prog_12_method_13_code, exceptionTable := #[], attributes := #[] }
def k7m4 : Method := { name := "isReadOnly", desc := "()Z", sig := { parameters := [], returnType := some .boolean }, accessFlags := 0, code := some k7c4 }
def k7c5 : Code := { maxStack := 1, maxLocals := 1, code := prog_12_method_14_code, exceptionTable := #[], attributes := #[] }
def k7m5 : Method := { name := "timeout", desc := "()Ljava/time/Duration;", sig := { parameters := [], returnType := some (.object "java/time/Duration") }, accessFlags := 0, code := some k7c5 }
/-- com/example/transaction_scopes/transactionscopes/ScopeSettings -/
def k7 : Class := { plain "com/example/transaction_scopes/transactionscopes/ScopeSettings" (some 0) with
  accessFlags := 49
  interfaces := #[]
  cf := some (fileOf pool7 8 #[] #[{ accessFlags := 2, nameIndex := 5, descriptorIndex := 51, attributes := #[] }, { accessFlags := 9, nameIndex := 47, descriptorIndex := 75, attributes := #[] }, { accessFlags := 0, nameIndex := 11, descriptorIndex := 72, attributes := #[] }, { accessFlags := 0, nameIndex := 15, descriptorIndex := 78, attributes := #[] }, { accessFlags := 0, nameIndex := 213, descriptorIndex := 97, attributes := #[] }, { accessFlags := 0, nameIndex := 23, descriptorIndex := 214, attributes := #[] }] 49 2 #[] #[{ accessFlags := 26, nameIndex := 54, descriptorIndex := 55, attributes := #[] }, { accessFlags := 26, nameIndex := 121, descriptorIndex := 24, attributes := #[] }, { accessFlags := 18, nameIndex := 11, descriptorIndex := 12, attributes := #[] }, { accessFlags := 18, nameIndex := 15, descriptorIndex := 16, attributes := #[] }, { accessFlags := 18, nameIndex := 19, descriptorIndex := 20, attributes := #[] }, { accessFlags := 18, nameIndex := 23, descriptorIndex := 24, attributes := #[] }, { accessFlags := 18, nameIndex := 27, descriptorIndex := 28, attributes := #[] }])
  fields := #[{ name := "REQUIRED", type := (.object "com/example/transaction_scopes/transactionscopes/ScopeSettings"), accessFlags := 26, slot := 0, constantValue := 0 }, { name := "LONGEST_TIMEOUT", type := (.object "java/time/Duration"), accessFlags := 26, slot := 1, constantValue := 0 }, { name := "propagation", type := (.object "com/example/transaction_scopes/transactionscopes/Propagation"), accessFlags := 18, slot := 0, constantValue := 0 }, { name := "isolation", type := (.object "com/example/transaction_scopes/transactionscopes/Isolation"), accessFlags := 18, slot := 1, constantValue := 0 }, { name := "readOnly", type := .boolean, accessFlags := 18, slot := 2, constantValue := 0 }, { name := "timeout", type := (.object "java/time/Duration"), accessFlags := 18, slot := 3, constantValue := 0 }, { name := "rules", type := (.object "java/util/Map"), accessFlags := 18, slot := 4, constantValue := 0 }]
  methods := #[k7m0, k7m1, k7m2, k7m3, k7m4, k7m5]
  instanceTypes := #[(.object "com/example/transaction_scopes/transactionscopes/Propagation"), (.object "com/example/transaction_scopes/transactionscopes/Isolation"), .boolean, (.object "java/time/Duration"), (.object "java/util/Map")]
  staticTypes := #[(.object "com/example/transaction_scopes/transactionscopes/ScopeSettings"), (.object "java/time/Duration")]
  resolved := Array.replicate 239 none
  statics := none }

def pool8 : Array CpInfo := pool [(2, .class_ 4), (1, u "java/lang/CharSequence"), (42, .class_ 48), (0, u "java/lang/CharSequence$1CodePointIterator"), (10, .class_ 60), (0, u "java/lang/CharSequence$1CharIterator"), (5, .class_ 67), (0, u "java/lang/Object")] 63

/-- java/lang/CharSequence -/
def k8 : Class := { plain "java/lang/CharSequence" (some 0) with
  accessFlags := 1537
  interfaces := #[]
  cf := some (fileOf pool8 2 #[.nestMembers #[47, 59]] #[] 1537 66 #[] #[])
  fields := #[]
  methods := #[]
  instanceTypes := #[]
  staticTypes := #[]
  resolved := Array.replicate 131 none
  statics := none }

def pool9 : Array CpInfo := pool [(1, .class_ 2), (0, u "java/lang/constant/ConstantDesc"), (0, .class_ 4), (0, u "java/lang/Object")] 32

/-- java/lang/constant/ConstantDesc -/
def k9 : Class := { plain "java/lang/constant/ConstantDesc" (some 0) with
  accessFlags := 1537
  interfaces := #[]
  cf := some (fileOf pool9 1 #[] #[] 1537 3 #[] #[])
  fields := #[]
  methods := #[]
  instanceTypes := #[]
  staticTypes := #[]
  resolved := Array.replicate 37 none
  statics := none }

def pool10 : Array CpInfo := pool [(2, .class_ 4), (1, u "java/lang/Object"), (0, u "<init>"), (0, u "()V"), (3, .class_ 12), (1, u "java/lang/String"), (0, u "value"), (0, u "[B"), (2, u "coder"), (0, u "B"), (2, u "hash"), (0, u "I"), (2, u "hashIsZero"), (0, u "Z"), (13, u "COMPACT_STRINGS"), (534, .class_ 576), (0, u "java/lang/CharSequence"), (22, u "CASE_INSENSITIVE_ORDER"), (0, u "Ljava/util/Comparator;"), (500, u "serialPersistentFields"), (0, u "[Ljava/io/ObjectStreamField;"), (0, .class_ 1104), (0, u "java/lang/String$CaseInsensitiveComparator"), (1, .class_ 1107), (0, u "java/io/Serializable"), (0, .class_ 1109), (0, u "java/lang/Comparable"), (0, .class_ 1111), (0, u "java/lang/constant/Constable"), (0, .class_ 1113), (0, u "java/lang/constant/ConstantDesc"), (2, u "serialVersionUID"), (0, u "J"), (3, u "REPL"), (0, u "C"), (2, u "LATIN1"), (1, u "UTF16")] 323

def k10m0 : Method := { name := "<init>", desc := "()V", sig := { parameters := [], returnType := none }, accessFlags := 1, code := none }
/-- java/lang/String -/
def k10 : Class := { plain "java/lang/String" (some 0) with
  accessFlags := 49
  interfaces := #[4, 3, 8, 2, 9]
  cf := some (fileOf pool10 10 #[.nestMembers #[1103]] #[{ accessFlags := 1, nameIndex := 5, descriptorIndex := 6, attributes := #[] }] 49 2 #[1106, 1108, 575, 1110, 1112] #[{ accessFlags := 18, nameIndex := 13, descriptorIndex := 14, attributes := #[] }, { accessFlags := 18, nameIndex := 17, descriptorIndex := 18, attributes := #[] }, { accessFlags := 2, nameIndex := 21, descriptorIndex := 22, attributes := #[] }, { accessFlags := 2, nameIndex := 25, descriptorIndex := 26, attributes := #[] }, { accessFlags := 26, nameIndex := 1116, descriptorIndex := 1117, attributes := #[] }, { accessFlags := 24, nameIndex := 40, descriptorIndex := 26, attributes := #[] }, { accessFlags := 26, nameIndex := 1101, descriptorIndex := 1102, attributes := #[] }, { accessFlags := 26, nameIndex := 1121, descriptorIndex := 1122, attributes := #[] }, { accessFlags := 25, nameIndex := 599, descriptorIndex := 600, attributes := #[] }, { accessFlags := 24, nameIndex := 1125, descriptorIndex := 18, attributes := #[] }, { accessFlags := 24, nameIndex := 1127, descriptorIndex := 18, attributes := #[] }])
  fields := #[{ name := "value", type := (.array .byte), accessFlags := 18, slot := 0, constantValue := 0 }, { name := "coder", type := .byte, accessFlags := 18, slot := 1, constantValue := 0 }, { name := "hash", type := .int, accessFlags := 2, slot := 2, constantValue := 0 }, { name := "hashIsZero", type := .boolean, accessFlags := 2, slot := 3, constantValue := 0 }, { name := "serialVersionUID", type := .long, accessFlags := 26, slot := 0, constantValue := 0 }, { name := "COMPACT_STRINGS", type := .boolean, accessFlags := 24, slot := 1, constantValue := 0 }, { name := "serialPersistentFields", type := (.array (.object "java/io/ObjectStreamField")), accessFlags := 26, slot := 2, constantValue := 0 }, { name := "REPL", type := .char, accessFlags := 26, slot := 3, constantValue := 0 }, { name := "CASE_INSENSITIVE_ORDER", type := (.object "java/util/Comparator"), accessFlags := 25, slot := 4, constantValue := 0 }, { name := "LATIN1", type := .byte, accessFlags := 24, slot := 5, constantValue := 0 }, { name := "UTF16", type := .byte, accessFlags := 24, slot := 6, constantValue := 0 }]
  methods := #[k10m0]
  instanceTypes := #[(.array .byte), .byte, .int, .boolean]
  staticTypes := #[.long, .boolean, (.array (.object "java/io/ObjectStreamField")), .char, (.object "java/util/Comparator"), .byte, .byte]
  resolved := Array.replicate 1451 none
  statics := none }

def pool11 : Array CpInfo := pool [(2, .class_ 4), (1, u "java/lang/Object"), (0, u "<init>"), (0, u "()V"), (35, .class_ 44), (1, u "java/util/Objects"), (0, u "requireNonNull"), (48, u "(Ljava/lang/Object;Ljava/lang/String;)Ljava/lang/Object;")] 89

def k11m0 : Method := { name := "<init>", desc := "()V", sig := { parameters := [], returnType := none }, accessFlags := 2, code := none }
def k11c1 : Code := { maxStack := 3, maxLocals := 2, code := jdk_31_method_11_code, exceptionTable := #[], attributes := #[] }
def k11m1 : Method := { name := "requireNonNull", desc := "(Ljava/lang/Object;Ljava/lang/String;)Ljava/lang/Object;", sig := { parameters := [(.object "java/lang/Object"), (.object "java/lang/String")], returnType := some (.object "java/lang/Object") }, accessFlags := 9, code := some k11c1 }
/-- java/util/Objects -/
def k11 : Class := { plain "java/util/Objects" (some 0) with
  accessFlags := 49
  interfaces := #[]
  cf := some (fileOf pool11 42 #[] #[{ accessFlags := 2, nameIndex := 5, descriptorIndex := 6, attributes := #[] }, { accessFlags := 9, nameIndex := 45, descriptorIndex := 94, attributes := #[] }] 49 2 #[] #[])
  fields := #[]
  methods := #[k11m0, k11m1]
  instanceTypes := #[]
  staticTypes := #[]
  resolved := Array.replicate 184 none
  statics := none }

def pool12 : Array CpInfo := pool [(1, .class_ 2), (0, u "com/example/transaction_scopes/transactionscopes/Isolation"), (2, u "DEFAULT"), (0, u "Lcom/example/transaction_scopes/transactionscopes/Isolation;"), (2, u "READ_UNCOMMITTED"), (2, u "READ_COMMITTED"), (2, u "REPEATABLE_READ"), (2, u "SERIALIZABLE"), (2, u "$VALUES"), (0, u "[Lcom/example/transaction_scopes/transactionscopes/Isolation;"), (6, .class_ 31), (1, u "java/lang/Enum"), (8, u "jdbcLevel"), (0, u "Ljava/util/OptionalInt;")] 36

/-- com/example/transaction_scopes/transactionscopes/Isolation -/
def k12 : Class := { plain "com/example/transaction_scopes/transactionscopes/Isolation" (some 5) with
  accessFlags := 16433
  interfaces := #[]
  cf := some (fileOf pool12 1 #[] #[] 16433 29 #[] #[{ accessFlags := 16409, nameIndex := 5, descriptorIndex := 6, attributes := #[] }, { accessFlags := 16409, nameIndex := 9, descriptorIndex := 6, attributes := #[] }, { accessFlags := 16409, nameIndex := 12, descriptorIndex := 6, attributes := #[] }, { accessFlags := 16409, nameIndex := 15, descriptorIndex := 6, attributes := #[] }, { accessFlags := 16409, nameIndex := 18, descriptorIndex := 6, attributes := #[] }, { accessFlags := 18, nameIndex := 40, descriptorIndex := 41, attributes := #[] }, { accessFlags := 4122, nameIndex := 21, descriptorIndex := 22, attributes := #[] }])
  fields := #[{ name := "DEFAULT", type := (.object "com/example/transaction_scopes/transactionscopes/Isolation"), accessFlags := 16409, slot := 0, constantValue := 0 }, { name := "READ_UNCOMMITTED", type := (.object "com/example/transaction_scopes/transactionscopes/Isolation"), accessFlags := 16409, slot := 1, constantValue := 0 }, { name := "READ_COMMITTED", type := (.object "com/example/transaction_scopes/transactionscopes/Isolation"), accessFlags := 16409, slot := 2, constantValue := 0 }, { name := "REPEATABLE_READ", type := (.object "com/example/transaction_scopes/transactionscopes/Isolation"), accessFlags := 16409, slot := 3, constantValue := 0 }, { name := "SERIALIZABLE", type := (.object "com/example/transaction_scopes/transactionscopes/Isolation"), accessFlags := 16409, slot := 4, constantValue := 0 }, { name := "jdbcLevel", type := (.object "java/util/OptionalInt"), accessFlags := 18, slot := 3, constantValue := 0 }, { name := "$VALUES", type := (.array (.object "com/example/transaction_scopes/transactionscopes/Isolation")), accessFlags := 4122, slot := 5, constantValue := 0 }]
  methods := #[]
  instanceTypes := #[(.object "java/lang/String"), .int, .int, (.object "java/util/OptionalInt")]
  staticTypes := #[(.object "com/example/transaction_scopes/transactionscopes/Isolation"), (.object "com/example/transaction_scopes/transactionscopes/Isolation"), (.object "com/example/transaction_scopes/transactionscopes/Isolation"), (.object "com/example/transaction_scopes/transactionscopes/Isolation"), (.object "com/example/transaction_scopes/transactionscopes/Isolation"), (.array (.object "com/example/transaction_scopes/transactionscopes/Isolation"))]
  resolved := Array.replicate 78 none
  statics := some 1 }

def pool13 : Array CpInfo := pool [(2, .class_ 4), (1, u "java/util/Map"), (31, .class_ 37), (0, u "java/util/Map$Entry"), (43, .fieldref 82 83), (0, .class_ 84), (0, .nameAndType 85 86), (0, u "java/util/ImmutableCollections"), (0, u "EMPTY_MAP"), (0, u "Ljava/util/ImmutableCollections$MapN;"), (6, .class_ 94), (0, u "java/lang/Object"), (13, u "of"), (0, u "()Ljava/util/Map;")] 153

def k13c0 : Code := { maxStack := 1, maxLocals := 0, code := jdk_72_method_26_code, exceptionTable := #[], attributes := #[] }
def k13m0 : Method := { name := "of", desc := "()Ljava/util/Map;", sig := { parameters := [], returnType := some (.object "java/util/Map") }, accessFlags := 9, code := some k13c0 }
/-- java/util/Map -/
def k13 : Class := { plain "java/util/Map" (some 0) with
  accessFlags := 1537
  interfaces := #[]
  cf := some (fileOf pool13 2 #[.nestMembers #[36]] #[{ accessFlags := 9, nameIndex := 108, descriptorIndex := 109, attributes := #[] }] 1537 93 #[] #[])
  fields := #[]
  methods := #[k13m0]
  instanceTypes := #[]
  staticTypes := #[]
  resolved := Array.replicate 263 none
  statics := none }

def pool14 : Array CpInfo := pool [(2, .class_ 4), (1, u "java/lang/Object"), (0, u "<init>"), (0, u "()V"), (3, .class_ 11), (0, u "java/util/ImmutableCollections$List12"), (0, .class_ 13), (0, u "java/util/ImmutableCollections$ListN"), (3, u "Z"), (29, .class_ 49), (1, u "java/util/ImmutableCollections"), (0, u "$assertionsDisabled"), (5, u "[Ljava/lang/Object;"), (5, u "EMPTY_LIST"), (0, u "Ljava/util/ImmutableCollections$ListN;"), (8, u "EMPTY_LIST_NULLS"), (22, u "SALT32L"), (0, u "J"), (2, u "REVERSE"), (6, u "archivedObjects"), (2, u "EMPTY"), (0, u "Ljava/lang/Object;"), (0, .class_ 112), (0, u "java/util/ImmutableCollections$SetN"), (5, u "EMPTY_SET"), (0, u "Ljava/util/ImmutableCollections$SetN;"), (0, .class_ 121), (0, u "java/util/ImmutableCollections$MapN"), (3, u "EMPTY_MAP"), (0, u "Ljava/util/ImmutableCollections$MapN;"), (4, u "EXPAND_FACTOR"), (0, u "I"), (36, .class_ 170), (0, u "java/util/ImmutableCollections$MapN$MapNIterator"), (0, .class_ 172), (0, u "java/util/ImmutableCollections$MapN$1"), (0, .class_ 174), (0, u "java/util/ImmutableCollections$Map1"), (0, .class_ 176), (0, u "java/util/ImmutableCollections$AbstractImmutableMap"), (0, .class_ 178), (0, u "java/util/ImmutableCollections$SetN$SetNIterator"), (0, .class_ 180), (0, u "java/util/ImmutableCollections$Set12"), (0, .class_ 182), (0, u "java/util/ImmutableCollections$Set12$1"), (0, .class_ 184), (0, u "java/util/ImmutableCollections$AbstractImmutableSet"), (0, .class_ 186), (0, u "java/util/ImmutableCollections$SubList"), (0, .class_ 188), (0, u "java/util/ImmutableCollections$ListItr"), (0, .class_ 190), (0, u "java/util/ImmutableCollections$AbstractImmutableList"), (0, .class_ 192), (0, u "java/util/ImmutableCollections$AbstractImmutableCollection"), (0, .class_ 194), (0, u "java/util/ImmutableCollections$Access"), (0, .class_ 196), (0, u "java/util/ImmutableCollections$Access$1")] 16

def k14m0 : Method := { name := "<init>", desc := "()V", sig := { parameters := [], returnType := none }, accessFlags := 2, code := none }
/-- java/util/ImmutableCollections -/
def k14 : Class := { plain "java/util/ImmutableCollections" (some 0) with
  accessFlags := 32
  interfaces := #[]
  cf := some (fileOf pool14 47 #[.nestMembers #[120, 169, 171, 173, 175, 111, 177, 179, 181, 183, 12, 10, 185, 187, 189, 191, 193, 195]] #[{ accessFlags := 2, nameIndex := 5, descriptorIndex := 6, attributes := #[] }] 32 2 #[] #[{ accessFlags := 26, nameIndex := 95, descriptorIndex := 96, attributes := #[] }, { accessFlags := 26, nameIndex := 99, descriptorIndex := 17, attributes := #[] }, { accessFlags := 10, nameIndex := 106, descriptorIndex := 56, attributes := #[] }, { accessFlags := 26, nameIndex := 109, descriptorIndex := 110, attributes := #[] }, { accessFlags := 24, nameIndex := 62, descriptorIndex := 63, attributes := #[] }, { accessFlags := 24, nameIndex := 72, descriptorIndex := 63, attributes := #[] }, { accessFlags := 24, nameIndex := 118, descriptorIndex := 119, attributes := #[] }, { accessFlags := 24, nameIndex := 125, descriptorIndex := 126, attributes := #[] }, { accessFlags := 24, nameIndex := 131, descriptorIndex := 132, attributes := #[] }, { accessFlags := 4120, nameIndex := 50, descriptorIndex := 17, attributes := #[] }])
  fields := #[{ name := "SALT32L", type := .long, accessFlags := 26, slot := 0, constantValue := 0 }, { name := "REVERSE", type := .boolean, accessFlags := 26, slot := 1, constantValue := 0 }, { name := "archivedObjects", type := (.array (.object "java/lang/Object")), accessFlags := 10, slot := 2, constantValue := 0 }, { name := "EMPTY", type := (.object "java/lang/Object"), accessFlags := 26, slot := 3, constantValue := 0 }, { name := "EMPTY_LIST", type := (.object "java/util/ImmutableCollections$ListN"), accessFlags := 24, slot := 4, constantValue := 0 }, { name := "EMPTY_LIST_NULLS", type := (.object "java/util/ImmutableCollections$ListN"), accessFlags := 24, slot := 5, constantValue := 0 }, { name := "EMPTY_SET", type := (.object "java/util/ImmutableCollections$SetN"), accessFlags := 24, slot := 6, constantValue := 0 }, { name := "EMPTY_MAP", type := (.object "java/util/ImmutableCollections$MapN"), accessFlags := 24, slot := 7, constantValue := 0 }, { name := "EXPAND_FACTOR", type := .int, accessFlags := 24, slot := 8, constantValue := 0 }, { name := "$assertionsDisabled", type := .boolean, accessFlags := 4120, slot := 9, constantValue := 0 }]
  methods := #[k14m0]
  instanceTypes := #[]
  staticTypes := #[.long, .boolean, (.array (.object "java/lang/Object")), (.object "java/lang/Object"), (.object "java/util/ImmutableCollections$ListN"), (.object "java/util/ImmutableCollections$ListN"), (.object "java/util/ImmutableCollections$SetN"), (.object "java/util/ImmutableCollections$MapN"), .int, .boolean]
  resolved := Array.replicate 213 none
  statics := some 2 }

def pool15 : Array CpInfo := pool [(2, .class_ 4), (1, u "java/lang/Object"), (0, u "<init>"), (0, u "()V"), (1, .class_ 10), (1, u "java/util/AbstractMap"), (42, .class_ 54), (0, u "java/util/Map"), (9, u "keySet"), (0, u "Ljava/util/Set;"), (0, .class_ 67), (0, u "java/util/AbstractMap$1"), (5, u "values"), (0, u "Ljava/util/Collection;"), (0, .class_ 76), (0, u "java/util/AbstractMap$2"), (104, .class_ 182), (0, u "java/util/AbstractMap$ViewCollection"), (0, .class_ 184), (0, u "java/util/AbstractMap$SimpleImmutableEntry"), (0, .class_ 186), (0, u "java/util/AbstractMap$SimpleEntry"), (0, .class_ 188), (0, u "java/util/AbstractMap$2$1"), (0, .class_ 190), (0, u "java/util/AbstractMap$1$1")] 5

def k15m0 : Method := { name := "<init>", desc := "()V", sig := { parameters := [], returnType := none }, accessFlags := 4, code := none }
/-- java/util/AbstractMap -/
def k15 : Class := { plain "java/util/AbstractMap" (some 0) with
  accessFlags := 1057
  interfaces := #[13]
  cf := some (fileOf pool15 8 #[.nestMembers #[181, 183, 185, 75, 187, 66, 189]] #[{ accessFlags := 4, nameIndex := 5, descriptorIndex := 6, attributes := #[] }] 1057 2 #[53] #[{ accessFlags := 128, nameIndex := 64, descriptorIndex := 65, attributes := #[] }, { accessFlags := 128, nameIndex := 73, descriptorIndex := 74, attributes := #[] }])
  fields := #[{ name := "keySet", type := (.object "java/util/Set"), accessFlags := 128, slot := 0, constantValue := 0 }, { name := "values", type := (.object "java/util/Collection"), accessFlags := 128, slot := 1, constantValue := 0 }]
  methods := #[k15m0]
  instanceTypes := #[(.object "java/util/Set"), (.object "java/util/Collection")]
  staticTypes := #[]
  resolved := Array.replicate 196 none
  statics := none }

def pool16 : Array CpInfo := pool [(2, .class_ 4), (1, u "java/util/AbstractMap"), (0, u "<init>"), (0, u "()V"), (1, .class_ 10), (1, u "java/util/ImmutableCollections"), (3, .class_ 16), (1, u "java/util/ImmutableCollections$AbstractImmutableMap"), (2, .class_ 20), (0, u "java/io/Serializable")] 66

def k16m0 : Method := { name := "<init>", desc := "()V", sig := { parameters := [], returnType := none }, accessFlags := 0, code := none }
/-- java/util/ImmutableCollections$AbstractImmutableMap -/
def k16 : Class := { plain "java/util/ImmutableCollections$AbstractImmutableMap" (some 15) with
  accessFlags := 1056
  interfaces := #[4]
  cf := some (fileOf pool16 14 #[.nestHost 8] #[{ accessFlags := 0, nameIndex := 5, descriptorIndex := 6, attributes := #[] }] 1056 2 #[19] #[])
  fields := #[]
  methods := #[k16m0]
  instanceTypes := #[(.object "java/util/Set"), (.object "java/util/Collection")]
  staticTypes := #[]
  resolved := Array.replicate 87 none
  statics := none }

def pool17 : Array CpInfo := pool [(1, .class_ 2), (0, u "java/util/ImmutableCollections"), (1, .class_ 6), (1, u "java/util/ImmutableCollections$AbstractImmutableMap"), (10, .class_ 19), (1, u "java/util/ImmutableCollections$MapN"), (0, u "size"), (0, u "I"), (4, u "table"), (0, u "[Ljava/lang/Object;")] 121

/-- java/util/ImmutableCollections$MapN -/
def k17 : Class := { plain "java/util/ImmutableCollections$MapN" (some 16) with
  accessFlags := 48
  interfaces := #[]
  cf := some (fileOf pool17 17 #[.nestHost 1] #[] 48 4 #[] #[{ accessFlags := 16, nameIndex := 26, descriptorIndex := 27, attributes := #[] }, { accessFlags := 16, nameIndex := 20, descriptorIndex := 21, attributes := #[] }])
  fields := #[{ name := "table", type := (.array (.object "java/lang/Object")), accessFlags := 16, slot := 2, constantValue := 0 }, { name := "size", type := .int, accessFlags := 16, slot := 3, constantValue := 0 }]
  methods := #[]
  instanceTypes := #[(.object "java/util/Set"), (.object "java/util/Collection"), (.array (.object "java/lang/Object")), .int]
  staticTypes := #[]
  resolved := Array.replicate 149 none
  statics := none }

def pool18 : Array CpInfo := pool [(1, u "java/lang/Cloneable"), (0, .class_ 1), (0, u "java/lang/Object"), (0, .class_ 3)] 3

/-- java/lang/Cloneable -/
def k18 : Class := { plain "java/lang/Cloneable" (some 0) with
  accessFlags := 1537
  interfaces := #[]
  cf := some (fileOf pool18 2 #[] #[] 1537 4 #[] #[])
  fields := #[]
  methods := #[]
  instanceTypes := #[]
  staticTypes := #[]
  resolved := Array.replicate 8 none
  statics := none }

/-- the primitive byte -/
def k19 : Class := { plain "byte" none with kind := .primitive 'B', accessFlags := 0x411 }
/-- [B -/
def k20 : Class := { plain "[B" (some 0) with kind := .array 19 .byte, interfaces := #[18, 4], accessFlags := 1041 }

/-- the primitive int -/
def k21 : Class := { plain "int" none with kind := .primitive 'I', accessFlags := 0x411 }
/-- [I -/
def k22 : Class := { plain "[I" (some 0) with kind := .array 21 .int, interfaces := #[18, 4], accessFlags := 1041 }

/-- [Ljava/lang/Object; -/
def k23 : Class := { plain "[Ljava/lang/Object;" (some 0) with kind := .array 0 (.object "java/lang/Object"), interfaces := #[18, 4], accessFlags := 1041 }

def heap : Heap := #[{ cls := 6, slots := #[.ref 4, .ref 11, .ref 10, .ref 6, .ref 9, .ref 7, .ref 8, .null], vm := .statics 6 },
  { cls := 12, slots := #[.ref 5, .null, .null, .null, .null, .null], vm := .statics 12 },
  { cls := 14, slots := #[.long 0, .int 0, .null, .null, .null, .null, .null, .ref 12, .int 0, .int 0], vm := .statics 14 },
  { cls := 23, slots := #[], vm := .none },
  { cls := 6, slots := #[.null, .int 0, .int 0, .null, .null], vm := .none },
  { cls := 12, slots := #[.null, .int 0, .int 0, .null], vm := .none },
  { cls := 6, slots := #[.null, .int 0, .int 0, .null, .null], vm := .none },
  { cls := 6, slots := #[.null, .int 0, .int 0, .null, .null], vm := .none },
  { cls := 6, slots := #[.null, .int 0, .int 0, .null, .null], vm := .none },
  { cls := 6, slots := #[.null, .int 0, .int 0, .null, .null], vm := .none },
  { cls := 6, slots := #[.null, .int 0, .int 0, .null, .null], vm := .none },
  { cls := 6, slots := #[.null, .int 0, .int 0, .null, .null], vm := .none },
  { cls := 17, slots := #[.null, .null, .ref 3, .int 0], vm := .none }]
def classes : Array Class := #[k0, k1, k2, k3, k4, k5, k6, k7, k8, k9, k10, k11, k12, k13, k14, k15, k16, k17, k18, k19, k20, k21, k22, k23]
def interned : List (Array UInt16 × Addr) := []
def slotsUsed : Nat := 67
def theMethod : MethodId := ⟨1, 2⟩
def args0 : Array Value := #[.int 5]
def aboutOver (below : List Frame) : State where
  vm := { classes := classes, interned := interned.toArray }
  heap := heap
  slotsUsed := slotsUsed
  threads := #[{ frames := .invoking theMethod args0 :: below }]
def below0 : List Frame := [.native { method := ⟨0, 0⟩, args := #[] }]
def about1 : State := aboutOver below0
def p0 : Program := .bare "" "" ""
def e0 : Env := launch0.env 0 0 0
theorem w_frames : about1.frames = Frame.invoking theMethod args0 :: below0 := rfl
set_option maxRecDepth 65536 in
theorem w_args : argsFit about1.vm theMethod args0 = true := by decide +kernel
set_option maxRecDepth 65536 in
theorem w_heap : heapFits about1 = true := by decide +kernel
set_option maxRecDepth 65536 in
theorem w_runnable : about1.curStatus? = some .runnable := by decide +kernel
set_option maxRecDepth 65536 in
theorem w_alone : about1.alone = true := by decide +kernel
set_option maxRecDepth 65536 in
theorem w_named : about1.methodNamed? x = some theMethod := by decide +kernel
set_option maxRecDepth 65536 in
theorem w_hears : about1.hears theMethod below0 = true := by decide +kernel
set_option maxRecDepth 65536 in
theorem w_ripe : about1.ripe theMethod args0 below0 = true := by decide +kernel
theorem w_running : about1.status = .running := rfl
set_option maxRecDepth 65536 in
theorem w_room : about1.hasRoom e0.platform room_1 = true :=
  launch0.hasRoom_least _ room_1 (by decide +kernel) (by decide +kernel) (by decide +kernel) (by decide +kernel) (by decide +kernel) (by decide +kernel)
theorem allAtoms_all (ts : List Jvm.Cond) (a : Array Jvm.Value) (st : Jvm.State) : (allAtoms ts).before a st = ts.all (fun c => c.before a st) := by
  induction ts with
  | nil => rfl
  | cons c t ih =>
    show (Jvm.Cond.and c (allAtoms t)).before a st = _
    rw [Jvm.Cond.before_and, ih, List.all_cons]
def words1 : List Jvm.Cond := Jvm.Cond.code x code maxLocals ret :: tables_1
/-- a 'code' word, met by the world's own term for the bytes: nothing is compared byte by byte -/
theorem code_word {y : MethodName} {bytes : ByteArray} {mx : Nat} {rt : Option FieldType} {a : Array Value} {s : State} {m : MethodId} {meth : Method} {c : Code} (h1 : s.methodNamed? y = some m) (h2 : s.vm.method? m = some meth) (h3 : meth.code = some c) (h4 : c.code = bytes)
    (h5 : (c.maxLocals == mx && c.exceptionTable.isEmpty && decide (c.maxStack ≤ mostOperands) && decide (meth.sig.returnType = rt) && !meth.locks && decide (parseMethodDescriptor y.desc = some meth.sig)) = true) : (Jvm.Cond.code y bytes mx rt).before a s = true := by
  simp only [Bool.and_eq_true, beq_iff_eq, Bool.not_eq_true', decide_eq_true_eq] at h5
  obtain ⟨⟨⟨⟨⟨g1, g2⟩, g3⟩, g4⟩, g5⟩, g6⟩ := h5
  simp [Cond.before, Cond.holds, Cond.value, h1, h2, h3, h4, g1, g2, g3, g4, g5, g6]
def isCode : Jvm.Cond → Bool
  | .code _ _ _ _ => true
  | _ => false
theorem all_split {L : List Jvm.Cond} {P : Jvm.Cond → Bool} (h1 : L.all (fun c => isCode c || P c) = true) (h2 : ∀ c ∈ L.filter isCode, P c = true) : L.all P = true := by
  refine List.all_eq_true.mpr fun c hc => ?_
  have h := List.all_eq_true.mp h1 c hc
  rcases Bool.eq_false_or_eq_true (isCode c) with hi | hi
  · exact h2 c (List.mem_filter.mpr ⟨hc, hi⟩)
  · simpa [hi] using h
set_option maxRecDepth 65536 in
theorem w_c0 : (Jvm.Cond.code x code maxLocals ret).before args0 about1 = true := code_word (m := ⟨1, 2⟩) (meth := k1m2) (c := k1c2) (by decide +kernel) rfl rfl rfl (by decide +kernel)
set_option maxRecDepth 65536 in
theorem w_c1 : (Jvm.Cond.code ({ cls := "com/example/transaction_scopes/transactionscopes/ScopeSettingsOfPinLaw", name := "pick", desc := "(I)Lcom/example/transaction_scopes/transactionscopes/Propagation;" } : Jvm.MethodName) method_2_code (2 : Nat) (Option.some (Jvm.ClassFile.FieldType.object "com/example/transaction_scopes/transactionscopes/Propagation"))).before args0 about1 = true := code_word (m := ⟨1, 1⟩) (meth := k1m1) (c := k1c1) (by decide +kernel) rfl rfl rfl (by decide +kernel)
set_option maxRecDepth 65536 in
theorem w_c2 : (Jvm.Cond.code ({ cls := "com/example/transaction_scopes/transactionscopes/ScopeSettings", name := "of", desc := "(Lcom/example/transaction_scopes/transactionscopes/Propagation;)Lcom/example/transaction_scopes/transactionscopes/ScopeSettings;" } : Jvm.MethodName) prog_12_method_2_code (1 : Nat) (Option.some (Jvm.ClassFile.FieldType.object "com/example/transaction_scopes/transactionscopes/ScopeSettings"))).before args0 about1 = true := code_word (m := ⟨7, 1⟩) (meth := k7m1) (c := k7c1) (by decide +kernel) rfl rfl rfl (by decide +kernel)
set_option maxRecDepth 65536 in
theorem w_c3 : (Jvm.Cond.code ({ cls := "java/util/Objects", name := "requireNonNull", desc := "(Ljava/lang/Object;Ljava/lang/String;)Ljava/lang/Object;" } : Jvm.MethodName) jdk_31_method_11_code (2 : Nat) (Option.some (Jvm.ClassFile.FieldType.object "java/lang/Object"))).before args0 about1 = true := code_word (m := ⟨11, 1⟩) (meth := k11m1) (c := k11c1) (by decide +kernel) rfl rfl rfl (by decide +kernel)
set_option maxRecDepth 65536 in
theorem w_c4 : (Jvm.Cond.code ({ cls := "java/util/Map", name := "of", desc := "()Ljava/util/Map;" } : Jvm.MethodName) jdk_72_method_26_code (0 : Nat) (Option.some (Jvm.ClassFile.FieldType.object "java/util/Map"))).before args0 about1 = true := code_word (m := ⟨13, 0⟩) (meth := k13m0) (c := k13c0) (by decide +kernel) rfl rfl rfl (by decide +kernel)
set_option maxRecDepth 65536 in
theorem w_c5 : (Jvm.Cond.code ({ cls := "com/example/transaction_scopes/transactionscopes/ScopeSettings", name := "<init>", desc := "(Lcom/example/transaction_scopes/transactionscopes/Propagation;Lcom/example/transaction_scopes/transactionscopes/Isolation;ZLjava/time/Duration;Ljava/util/Map;)V" } : Jvm.MethodName) prog_12_method_1_code (6 : Nat) (Option.none : Option Jvm.ClassFile.FieldType)).before args0 about1 = true := code_word (m := ⟨7, 0⟩) (meth := k7m0) (c := k7c0) (by decide +kernel) rfl rfl rfl (by decide +kernel)
set_option maxRecDepth 65536 in
theorem w_c6 : (Jvm.Cond.code ({ cls := "java/lang/Object", name := "<init>", desc := "()V" } : Jvm.MethodName) object_method_1_code (1 : Nat) (Option.none : Option Jvm.ClassFile.FieldType)).before args0 about1 = true := code_word (m := ⟨0, 0⟩) (meth := k0m0) (c := k0c0) (by decide +kernel) rfl rfl rfl (by decide +kernel)
set_option maxRecDepth 65536 in
theorem w_c7 : (Jvm.Cond.code ({ cls := "com/example/transaction_scopes/transactionscopes/ScopeSettings", name := "propagation", desc := "()Lcom/example/transaction_scopes/transactionscopes/Propagation;" } : Jvm.MethodName) prog_12_method_11_code (1 : Nat) (Option.some (Jvm.ClassFile.FieldType.object "com/example/transaction_scopes/transactionscopes/Propagation"))).before args0 about1 = true := code_word (m := ⟨7, 2⟩) (meth := k7m2) (c := k7c2) (by decide +kernel) rfl rfl rfl (by decide +kernel)
set_option maxRecDepth 65536 in
theorem w_c8 : (Jvm.Cond.code ({ cls := "com/example/transaction_scopes/transactionscopes/ScopeSettings", name := "isolation", desc := "()Lcom/example/transaction_scopes/transactionscopes/Isolation;" } : Jvm.MethodName) prog_12_method_12_code (1 : Nat) (Option.some (Jvm.ClassFile.FieldType.object "com/example/transaction_scopes/transactionscopes/Isolation"))).before args0 about1 = true := code_word (m := ⟨7, 3⟩) (meth := k7m3) (c := k7c3) (by decide +kernel) rfl rfl rfl (by decide +kernel)
set_option maxRecDepth 65536 in
theorem w_c9 : (Jvm.Cond.code ({ cls := "com/example/transaction_scopes/transactionscopes/ScopeSettings", name := "isReadOnly", desc := "()Z" } : Jvm.MethodName) prog_12_method_13_code (1 : Nat) (Option.some Jvm.ClassFile.FieldType.boolean)).before args0 about1 = true := code_word (m := ⟨7, 4⟩) (meth := k7m4) (c := k7c4) (by decide +kernel) rfl rfl rfl (by decide +kernel)
set_option maxRecDepth 65536 in
theorem w_c10 : (Jvm.Cond.code ({ cls := "com/example/transaction_scopes/transactionscopes/ScopeSettings", name := "timeout", desc := "()Ljava/time/Duration;" } : Jvm.MethodName) prog_12_method_14_code (1 : Nat) (Option.some (Jvm.ClassFile.FieldType.object "java/time/Duration"))).before args0 about1 = true := code_word (m := ⟨7, 5⟩) (meth := k7m5) (c := k7c5) (by decide +kernel) rfl rfl rfl (by decide +kernel)
def codes1 : List Jvm.Cond := [Jvm.Cond.code x code maxLocals ret, Jvm.Cond.code ({ cls := "com/example/transaction_scopes/transactionscopes/ScopeSettingsOfPinLaw", name := "pick", desc := "(I)Lcom/example/transaction_scopes/transactionscopes/Propagation;" } : Jvm.MethodName) method_2_code (2 : Nat) (Option.some (Jvm.ClassFile.FieldType.object "com/example/transaction_scopes/transactionscopes/Propagation")), Jvm.Cond.code ({ cls := "com/example/transaction_scopes/transactionscopes/ScopeSettings", name := "of", desc := "(Lcom/example/transaction_scopes/transactionscopes/Propagation;)Lcom/example/transaction_scopes/transactionscopes/ScopeSettings;" } : Jvm.MethodName) prog_12_method_2_code (1 : Nat) (Option.some (Jvm.ClassFile.FieldType.object "com/example/transaction_scopes/transactionscopes/ScopeSettings")), Jvm.Cond.code ({ cls := "java/util/Objects", name := "requireNonNull", desc := "(Ljava/lang/Object;Ljava/lang/String;)Ljava/lang/Object;" } : Jvm.MethodName) jdk_31_method_11_code (2 : Nat) (Option.some (Jvm.ClassFile.FieldType.object "java/lang/Object")), Jvm.Cond.code ({ cls := "java/util/Map", name := "of", desc := "()Ljava/util/Map;" } : Jvm.MethodName) jdk_72_method_26_code (0 : Nat) (Option.some (Jvm.ClassFile.FieldType.object "java/util/Map")), Jvm.Cond.code ({ cls := "com/example/transaction_scopes/transactionscopes/ScopeSettings", name := "<init>", desc := "(Lcom/example/transaction_scopes/transactionscopes/Propagation;Lcom/example/transaction_scopes/transactionscopes/Isolation;ZLjava/time/Duration;Ljava/util/Map;)V" } : Jvm.MethodName) prog_12_method_1_code (6 : Nat) (Option.none : Option Jvm.ClassFile.FieldType), Jvm.Cond.code ({ cls := "java/lang/Object", name := "<init>", desc := "()V" } : Jvm.MethodName) object_method_1_code (1 : Nat) (Option.none : Option Jvm.ClassFile.FieldType), Jvm.Cond.code ({ cls := "com/example/transaction_scopes/transactionscopes/ScopeSettings", name := "propagation", desc := "()Lcom/example/transaction_scopes/transactionscopes/Propagation;" } : Jvm.MethodName) prog_12_method_11_code (1 : Nat) (Option.some (Jvm.ClassFile.FieldType.object "com/example/transaction_scopes/transactionscopes/Propagation")), Jvm.Cond.code ({ cls := "com/example/transaction_scopes/transactionscopes/ScopeSettings", name := "isolation", desc := "()Lcom/example/transaction_scopes/transactionscopes/Isolation;" } : Jvm.MethodName) prog_12_method_12_code (1 : Nat) (Option.some (Jvm.ClassFile.FieldType.object "com/example/transaction_scopes/transactionscopes/Isolation")), Jvm.Cond.code ({ cls := "com/example/transaction_scopes/transactionscopes/ScopeSettings", name := "isReadOnly", desc := "()Z" } : Jvm.MethodName) prog_12_method_13_code (1 : Nat) (Option.some Jvm.ClassFile.FieldType.boolean), Jvm.Cond.code ({ cls := "com/example/transaction_scopes/transactionscopes/ScopeSettings", name := "timeout", desc := "()Ljava/time/Duration;" } : Jvm.MethodName) prog_12_method_14_code (1 : Nat) (Option.some (Jvm.ClassFile.FieldType.object "java/time/Duration"))]
set_option maxRecDepth 65536 in
theorem codes_eq : words1.filter isCode = codes1 := rfl
theorem w_codes : ∀ c ∈ words1.filter isCode, c.before args0 about1 = true := by
  rw [codes_eq]
  intro c hc
  simp only [codes1, List.mem_cons, List.not_mem_nil, or_false] at hc
  rcases hc with rfl | rfl | rfl | rfl | rfl | rfl | rfl | rfl | rfl | rfl | rfl
  · exact w_c0
  · exact w_c1
  · exact w_c2
  · exact w_c3
  · exact w_c4
  · exact w_c5
  · exact w_c6
  · exact w_c7
  · exact w_c8
  · exact w_c9
  · exact w_c10
set_option maxRecDepth 65536 in
theorem w_t1 : (words1.take 24).all (fun c => isCode c || c.before args0 about1) = true := by decide +kernel
set_option maxRecDepth 65536 in
theorem w_t2 : ((words1.drop 24).take 24).all (fun c => isCode c || c.before args0 about1) = true := by decide +kernel
set_option maxRecDepth 65536 in
theorem w_t3 : (((words1.drop 24).drop 24).take 24).all (fun c => isCode c || c.before args0 about1) = true := by decide +kernel
set_option maxRecDepth 65536 in
theorem w_t4 : (((words1.drop 24).drop 24).drop 24).all (fun c => isCode c || c.before args0 about1) = true := by decide +kernel
theorem w_tables : (allAtoms (Jvm.Cond.code x code maxLocals ret :: tables_1)).before args0 about1 = true := by
  rw [allAtoms_all]
  show words1.all (fun c => c.before args0 about1) = true
  refine all_split ?_ w_codes
  rw [← List.take_append_drop 24 words1, List.all_append, w_t1, ← List.take_append_drop 24 (words1.drop 24), List.all_append, w_t2, ← List.take_append_drop 24 ((words1.drop 24).drop 24), List.all_append, w_t3, w_t4]
  rfl
set_option maxRecDepth 65536 in
theorem w_rest : rest_1_c.before args0 about1 = true := by decide +kernel
set_option maxRecDepth 65536 in
theorem w_case : (Jvm.Cond.and given_1 narrow_1).before args0 about1 = true := by decide +kernel
theorem w_applies : (headSpec (Jvm.Cond.code x code maxLocals ret :: tables_1) room_1).applies x e0.platform about1 = true :=
  (Spec.applies_iff w_frames).mpr ⟨w_running, w_runnable, w_alone, w_named, w_hears, w_ripe, w_room, w_tables⟩
theorem atStart : AtStart classFile x code maxLocals ret World_1 tables_1 room_1 Calls_1 rest_1 Pre_1 launch0 p0 e0 about1 theMethod args0 below0 :=
  ⟨lists_1, trivial, launch0.admits_env _ _ _, launch0.least_env, fairChoices_fair.cas, fairChoices_fair.clock, w_frames, w_args, w_heap, w_applies, trivial, w_rest, w_case⟩
end start1
theorem witness_1 : WitnessClaimed_1 := ⟨start1.p0, start1.e0, start1.about1, start1.theMethod, start1.args0, start1.below0, start1.atStart⟩
end Jvm.Pilot.@@N@@
