import JvmDerived
import JvmDerived.Pilot.@@N@@Statement
import JvmDerived.Pilot.@@N@@Code
set_option linter.unusedVariables false
set_option linter.unusedSimpArgs false
namespace Jvm.RoadKit
open Sem ClassFile Op Lib Jvm.Stand Jvm.Free Jvm.LawKit
section New
variable {p : Program} {l : Launch} {e : Env} {R : Room} {s : State} {m : MethodId} {args : Array Value} {below : List Frame} {meth : Method} {c : Code} {T : State} {locs : List Loc} {cells slots : Nat}
theorem retI (X : Stand p l e R s m args below meth c T locs cells slots) (hx : p.tables.exec = Jvm.exec) {pc : Nat} {Ls : Array Slot} {z : Int32} {rest : List Value} (hret : meth.sig.returnType = some .int) (hd : decode c.code pc = .ok (.ireturn, 1)) {fs : List Frame}
    (hl : ∀ (f : JFrame) (acts : List Action), f.method = m → f.locked = none → f.entered = [] → (doReturn e (T.setTop f) acts (some (.int z))).1 = T.setFrames fs) : Steps p.tables e below (T.setTop (mkF m pc Ls (.int z :: rest))) (T.setFrames fs) := by
  have hm' : T.vm.method? m = some meth := X.method'
  have hn : narrow .int (.int z) = .int z := rfl
  show Steps p.tables e below (T.setTop { method := m, pc := pc, locals := Ls, stack := _ :: rest, locked := none }) _
  jvm_step X.here [X.here.top, hx, hd, hm', hret, hn]
  first | (intro acts; rw [hl _ acts rfl rfl rfl]) | rw [hl _ _ rfl rfl rfl]
  exact Steps.refl _
end New
end Jvm.RoadKit
namespace Jvm.Pilot.@@N@@
open Jvm Jvm.ClassFile Sem Op Lib Jvm.Free Jvm.Stand Jvm.LawKit Jvm.RoadKit Bundle Jvm.Pilot.@@N@@.Jvm.D
theorem own_val {args : Array Value} {s : State} {t : Term} {k : Int32} (h : (Cond.eq t (.int k)).value args s none s [] = some true) : t.eval args s none [] s = some (.int k) := by
  obtain ⟨u, w, e1, e2, k1, k2⟩ := cmp_v (Or.inl h)
  have ew : w = .int k := (Option.some.inj ((Term.int_eval k).symm.trans e2)).symm
  subst ew
  obtain ⟨z, rfl⟩ := k2
  have q : z = k := by simpa [Cond.value, e1, e2] using h
  rw [e1, q]
theorem own_ord {args : Array Value} {s : State} {t : Term} {C n d : String} {a : Addr} {k : Int32} (ev : t.eval args s none [] s = some (.ref a)) (h : (Cond.eq (.field t C n d) (.int k)).value args s none s [] = some true) : s.fieldOf? a C n d = some (.int k) := by
  rw [← fld_at (o := none) (args := args) (first := s) (idx := []) ev]; exact own_val h
theorem own_ne {s : State} {C n d : String} {a b : Addr} {k j : Int32} (h1 : s.fieldOf? a C n d = some (.int k)) (h2 : s.fieldOf? b C n d = some (.int j)) (hk : k ≠ j) : ¬ (a = b) := fun e => by
  subst e; exact hk (Value.int.inj (Option.some.inj (h1.symm.trans h2)))
theorem own_keep {h0 h : Heap} {ws : List Addr} (e : h = h0) : Keep h0 h ws := by subst e; exact Keep.refl _ _
theorem own_nm {a : Addr} : a ∉ ([] : List Addr) := fun q => nomatch q
theorem own_nm1 {a b : Addr} (q : ¬ (a = b)) : a ∉ [b] := fun z => q (List.mem_singleton.mp z)
theorem own_ge1 {b : Addr} {n : Nat} (q : n ≤ b) : ∀ x ∈ [b], n ≤ x := fun x hx => by cases List.mem_singleton.mp hx; exact q
theorem own_ge0 {n : Nat} : ∀ x ∈ ([] : List Addr), n ≤ x := fun x hx => nomatch hx
section OwnFill
variable {p : Program} {l : Launch} {e : Env} {R : Room} {s : State} {m : MethodId} {args : Array Value} {below : List Frame} {meth : Method} {c : Code} {T : State} {locs : List Loc} {cells slots : Nat} {Z : State} {a0 : Array Value} {h : Heap}
/-- one place of an array of objects: dup, the place, getstatic, aastore -/
theorem own_fill (X : Stand p l e R s m args below meth c T locs cells slots) (hx : p.tables.exec = Jvm.exec) (hZ : Z.Warmed39 s.vm) {own C nm d : String} {index : Nat} (hown : s.vm.findClass own = some m.cls) (wl : (Jvm.Cond.fieldLink own index C nm d).before a0 Z = true)
    (eT : T.heap = h) {n0 : Nat} (O : Old Z n0 h) (N : Fr n0 locs) {b : Addr} {k : ClassId} {z : Int32} {w : Nat → Addr} {i : Nat} (A : Arv Z h b k (.object C) z ((List.range i).map fun q => Value.ref (w q)) .null) (Ov : Ovr Z k C) (gb : n0 ≤ b)
    (S : Sta Z Z.heap C nm d (.ref (w i))) (E : Exa Z Z.heap (w i) C) {pc q : Nat} {Ls : Array Slot} {j : Int32} {jj : Int} (hj0 : ¬ j < 0) (hj : j.toNatClampNeg = i) (hlt : i < z.toNatClampNeg)
    (d1 : decode c.code pc = .ok (.dup, 1)) (d2 : (decode c.code (pc + 1) = .ok (.iconst jj, 1) ∧ Int32.ofInt jj = j ∧ q = pc + 2) ∨ (decode c.code (pc + 1) = .ok (.bipush jj, 2) ∧ (Int8.ofInt jj).toInt32 = j ∧ q = pc + 3))
    (d3 : decode c.code q = .ok (.getstatic index, 3)) (d4 : decode c.code (q + 3) = .ok (.aastore, 1)) :
    ∃ T' h' locs', Stand p l e R s m args below meth c T' locs' cells slots ∧ T'.heap = h' ∧ Old Z n0 h' ∧ Fr n0 locs' ∧ Arv Z h' b k (.object C) z ((List.range (i + 1)).map fun q => Value.ref (w q)) .null ∧ Keep h h' [b] ∧
      ∀ target, Steps p.tables e below (T'.setTop (mkF m (q + 4) Ls [.ref b])) target → Steps p.tables e below (T.setTop (mkF m pc Ls [.ref b])) target := by
  obtain ⟨cl, Ar, q1, S1, q3, H, G⟩ := A.pad (pad_rep _ Value.null 1)
  have hin : ¬ (j < 0 ∨ cl.slots.size ≤ j.toNatClampNeg) := by
    rw [S1, hj]; exact fun y => y.elim hj0 (fun y => Nat.lt_irrefl _ (Nat.lt_of_lt_of_le hlt y))
  obtain ⟨T1, X1, e1, st1⟩ := getS2 X hx hZ hown (host := "") (Or.inl wl) Via.refl eT (S.ext O.2) (g := mkF m q Ls [.int j, .ref b, .ref b]) rfl d3
  obtain ⟨T2, h2, X2, e2, W2, st2⟩ := stR X1 hx hZ e1 Ar (j := j) hin rfl (Sto.ofV Ar q1 Ov (Ins.self (E.ext O.2))) (g := mkF m (q + 3) Ls [.ref (w i), .int j, .ref b, .ref b]) rfl rfl d4
  have A2 := Arv.set Ar q1 S1 q3 H G (v := .ref (w i)) rfl W2 i hj (by simp)
  have eq : ((((List.range i).map fun q => Value.ref (w q)) ++ List.replicate 1 Value.null).set i (.ref (w i))) = (List.range (i + 1)).map fun q => Value.ref (w q) := by
    rw [List.range_succ, List.map_append]; simp [List.set_append]
  rw [eq] at A2
  refine ⟨T2, h2, _, X2, e2, O.wr W2 gb, Fr.snoc X2 N gb, A2, Keep.of_wr W2, fun target ht => ?_⟩
  refine XS.dup X.here hx rfl d1 rfl rfl ?_
  show Steps p.tables e below (T.setTop (mkF m (pc + 1) Ls [.ref b, .ref b])) _
  rcases d2 with ⟨d2, ej, rfl⟩ | ⟨d2, ej, rfl⟩
  · refine XS.iconst X.here hx rfl d2 ?_
    rw [ej]
    exact st1 _ (st2 _ ht)
  · refine XS.bipush X.here hx rfl d2 ?_
    rw [ej]
    exact st1 _ (st2 _ ht)
/-- one place of an array of booleans: dup, the place, the value, bastore -/
theorem own_fillZ (X : Stand p l e R s m args below meth c T locs cells slots) (hx : p.tables.exec = Jvm.exec) (hZ : Z.Warmed39 s.vm)
    (eT : T.heap = h) {n0 : Nat} (O : Old Z n0 h) (N : Fr n0 locs) {b : Addr} {k : ClassId} {z : Int32} {vs : List Value} (A : Arv Z h b k .boolean z vs (.int 0)) (gb : n0 ≤ b)
    {pc q : Nat} {Ls : Array Slot} {j y : Int32} {jj yy : Int} (hj0 : ¬ j < 0) (hj : j.toNatClampNeg = vs.length) (hlt : vs.length < z.toNatClampNeg) (hy : nar .boolean (Int32.ofInt yy) = y)
    (d1 : decode c.code pc = .ok (.dup, 1)) (d2 : (decode c.code (pc + 1) = .ok (.iconst jj, 1) ∧ Int32.ofInt jj = j ∧ q = pc + 2) ∨ (decode c.code (pc + 1) = .ok (.bipush jj, 2) ∧ (Int8.ofInt jj).toInt32 = j ∧ q = pc + 3))
    (d3 : decode c.code q = .ok (.iconst yy, 1)) (d4 : decode c.code (q + 1) = .ok (.bastore, 1)) :
    ∃ T' h' locs', Stand p l e R s m args below meth c T' locs' cells slots ∧ T'.heap = h' ∧ Old Z n0 h' ∧ Fr n0 locs' ∧ Arv Z h' b k .boolean z (vs ++ [.int y]) (.int 0) ∧ Keep h h' [b] ∧
      ∀ target, Steps p.tables e below (T'.setTop (mkF m (q + 2) Ls [.ref b])) target → Steps p.tables e below (T.setTop (mkF m pc Ls [.ref b])) target := by
  obtain ⟨cl, Ar, q1, S1, q3, H, G⟩ := A.pad (pad_rep _ (Value.int 0) 1)
  have hin : ¬ (j < 0 ∨ cl.slots.size ≤ j.toNatClampNeg) := by
    rw [S1, hj]; exact fun y => y.elim hj0 (fun y => Nat.lt_irrefl _ (Nat.lt_of_lt_of_le hlt y))
  obtain ⟨T2, h2, X2, e2, W2, st2⟩ := stZ X hx hZ eT Ar (j := j) (x := Int32.ofInt yy) hin (g := mkF m (q + 1) Ls [.int (Int32.ofInt yy), .int j, .ref b, .ref b]) rfl rfl d4
  have A2 := Arv.set Ar q1 S1 q3 H G (v := .int (nar .boolean (Int32.ofInt yy))) (fits_nar_bool _) W2 vs.length hj (by simp)
  have eq : ((vs ++ List.replicate 1 (Value.int 0)).set vs.length (.int (nar .boolean (Int32.ofInt yy)))) = vs ++ [.int y] := by
    rw [hy]; simp [List.set_append]
  rw [eq] at A2
  refine ⟨T2, h2, _, X2, e2, O.wr W2 gb, Fr.snoc X2 N gb, A2, Keep.of_wr W2, fun target ht => ?_⟩
  refine XS.dup X.here hx rfl d1 rfl rfl ?_
  show Steps p.tables e below (T.setTop (mkF m (pc + 1) Ls [.ref b, .ref b])) _
  rcases d2 with ⟨d2, ej, rfl⟩ | ⟨d2, ej, rfl⟩
  · refine XS.iconst X.here hx rfl d2 ?_
    rw [ej]
    exact XS.iconst X.here hx rfl d3 (st2 _ ht)
  · refine XS.bipush X.here hx rfl d2 ?_
    rw [ej]
    exact XS.iconst X.here hx rfl d3 (st2 _ ht)
end OwnFill
/-- the place that (x & max) % n names: inside -/
theorem own_idx (x n : Int32) (hn : 0 < n.toInt) : ¬ ((x &&& (2147483647 : Int32)) % n < 0) ∧ (x &&& (2147483647 : Int32)) % n < n := by
  have h1 := c_and x (2147483647 : Int32) (by decide)
  have h2 := (c_iremV (x &&& (2147483647 : Int32)) n).1 h1.1 hn
  have e0 : (0 : Int32).toInt = 0 := rfl
  simp only [Int32.lt_iff_toInt_lt, e0]
  omega
theorem own_cases {i n : Nat} (h : i < n) : i ∈ List.range n := List.mem_range.mpr h
theorem d1_0 : decode prog_46_method_5_code 0 = .ok (.aload_n 0, 1) := by decide +kernel
theorem d1_1 : decode prog_46_method_5_code 1 = .ok (.getstatic 7, 3) := by decide +kernel
theorem d1_4 : decode prog_46_method_5_code 4 = .ok (.if_acmp .eq 10, 3) := by decide +kernel
theorem d1_14 : decode prog_46_method_5_code 14 = .ok (.iconst 1, 1) := by decide +kernel
theorem d1_15 : decode prog_46_method_5_code 15 = .ok (.goto 4, 3) := by decide +kernel
theorem d1_19 : decode prog_46_method_5_code 19 = .ok (.ireturn, 1) := by decide +kernel
theorem pn_1 : plainName "com/example/metier/metier/report/Column" = true := by first | (simp [plainName, overriddenIn]; done) | decide +kernel
theorem ef_1 (m : MethodId) (x0 : Addr) : entryFrame m #[(.ref x0)] 1 = mkF m 0 #[.val (.ref x0)] [] := by first | (simp [entryFrame, mkF, argsToLocals, Value.category]; done) | rfl
def Q1_t (Z : State) (a1 : Addr) (w2 : Addr) (h0 : Heap) (n0 : Nat) (v : Option Value) (h : Heap) (L : List Loc) : Prop := v = some (.int (1 : Int32)) ∧ Fr n0 L ∧ h = h0
set_option maxRecDepth 65536 in
set_option maxHeartbeats 40000000 in
theorem rm1_t (l : Launch) (Z : State) (a0 : Array Value) (hw : ∀ d ∈ tables_1, d.before a0 Z = true) (ws : List Jvm.Cond) (a1 : Addr) (w2 : Addr) (h0 : Heap) (n0 : Nat) (Z0 : n0 ≤ h0.size) (S_RECORD : Sta Z h0 "com/example/metier/metier/report/Column" "RECORD" "Lcom/example/metier/metier/report/Column;" (.ref w2)) (ha4 : a1 = w2) :
    MetFree l (⟨"com/example/metier/metier/report/Column", "numeric", "()Z"⟩ : MethodName) (head1 (Jvm.Cond.code (⟨"com/example/metier/metier/report/Column", "numeric", "()Z"⟩ : MethodName) prog_46_method_5_code 1 (some .boolean) :: ws) ({ frames := 0, cells := 0, slots := 0, locals := 0 } : Room)) (fun a U => a = #[(.ref a1)] ∧ Z.Warmed39 U.vm ∧ U.heap = h0) (fun _ _ _ _ _ => True) (fun _ U o U' => ∃ v L, o = .returned v ∧ Q1_t Z a1 w2 h0 n0 v U'.heap L ∧ FrameEnd U o U' L ({ frames := 0, cells := 0, slots := 0, locals := 0 } : Room).cells ({ frames := 0, cells := 0, slots := 0, locals := 0 } : Room).slots) := by
  refine MetFree.of_bodySF (plainFor_of_name pn_1) hisR ?_
  intro p e s m args below meth c s₁ Bd hml0 hP hK
  obtain ⟨rfl, hZ, hh⟩ := hP
  have hx := Bd.exec
  have hby := Bd.bytes
  have hml : c.maxLocals = 1 := hml0
  have hown : s.vm.findClass "com/example/metier/metier/report/Column" = some m.cls := findClass_of_methodNamed Bd.named
  have hnm := (name_of_methodNamed Bd.named Bd.method).1
  have X0 : Stand p l e ({ frames := 0, cells := 0, slots := 0, locals := 0 } : Room) s m #[(.ref a1)] below meth c s₁ [] 0 0 := Stand.of_body Bd
  have e0 : s₁.heap = h0 := by rw [← hh, Bd.state]; rfl
  have N0 := Fr.nil n0
  have pre0 : ∀ t, Steps p.tables e below (s₁.setTop (mkF m 0 #[.val (.ref a1)] [])) t → Steps p.tables e below (s₁.setTop (entryFrame m #[(.ref a1)] 1)) t := fun t k => castTop (ef_1 m a1) k
  obtain ⟨T3, X3, e3, st3⟩ := getS2 X0 hx hZ hown (host := "") (Or.inl (hw _ (List.mem_of_getElem? (i := 29) rfl))) Via.refl e0 S_RECORD (g := (mkF m 1 #[.val (.ref a1)] [(.ref a1)])) rfl (hb hby d1_1)
  obtain ⟨fs, hr, hrun, hended, hW, hsame⟩ := X3.leave (v := some (.int (1 : Int32))) (fun h => by rw [Bd.returns] at h; cases h)
  refine ⟨_, _, pre0 _ ?_, hrun, hended, _, _, rfl, ?_, ⟨_, rfl⟩, hW, hsame.mono (by decide) (by decide)⟩
  · show Steps p.tables e below (s₁.setTop (mkF m 0 #[.val (.ref a1)] [])) _
    refine XS.aloadN X0.here hx rfl (hb hby d1_0) rfl rfl ?_
    show Steps p.tables e below (s₁.setTop (mkF m 1 #[.val (.ref a1)] [(.ref a1)])) _
    refine st3 _ ?_
    show Steps p.tables e below (T3.setTop (mkF m 4 #[.val (.ref a1)] [(.ref w2), (.ref a1)])) _
    refine Jvm.RoadKit.acmp (g := (mkF m 4 #[.val (.ref a1)] [(.ref w2), (.ref a1)])) X3 hx rfl rfl rfl (pc0 := 4) (pc' := 14) (same := true) rfl (hb hby d1_4) rfl (decide_eq_true (congrArg Value.ref ha4)) (by decide) (by decide) ?_
    show Steps p.tables e below (T3.setTop (mkF m 14 #[.val (.ref a1)] [])) _
    refine XS.iconst X3.here hx rfl (hb hby d1_14) ?_
    show Steps p.tables e below (T3.setTop (mkF m 15 #[.val (.ref a1)] [(.int (1 : Int32))])) _
    refine XS.goto X3.here hx rfl (pc0 := 15) (pc' := 19) rfl (hb hby d1_15) (by decide) (by decide) ?_
    show Steps p.tables e below (T3.setTop (mkF m 19 #[.val (.ref a1)] [(.int (1 : Int32))])) _
    exact retN X3 hx (t := .boolean) Bd.returns (by simp) (hb hby d1_19) hr
  · show Q1_t Z a1 w2 h0 n0 _ T3.heap _
    rw [e3]
    exact ⟨rfl, N0, rfl⟩
theorem d1_7 : decode prog_46_method_5_code 7 = .ok (.aload_n 0, 1) := by decide +kernel
theorem d1_8 : decode prog_46_method_5_code 8 = .ok (.getstatic 16, 3) := by decide +kernel
theorem d1_11 : decode prog_46_method_5_code 11 = .ok (.if_acmp .ne 7, 3) := by decide +kernel
def Q1_ff (Z : State) (a1 : Addr) (w2 : Addr) (w4 : Addr) (h0 : Heap) (n0 : Nat) (v : Option Value) (h : Heap) (L : List Loc) : Prop := v = some (.int (1 : Int32)) ∧ Fr n0 L ∧ h = h0
set_option maxRecDepth 65536 in
set_option maxHeartbeats 40000000 in
theorem rm1_ff (l : Launch) (Z : State) (a0 : Array Value) (hw : ∀ d ∈ tables_1, d.before a0 Z = true) (ws : List Jvm.Cond) (a1 : Addr) (w2 : Addr) (w4 : Addr) (h0 : Heap) (n0 : Nat) (Z0 : n0 ≤ h0.size) (S_RECORD : Sta Z h0 "com/example/metier/metier/report/Column" "RECORD" "Lcom/example/metier/metier/report/Column;" (.ref w2)) (S_OCCURRENCE : Sta Z h0 "com/example/metier/metier/report/Column" "OCCURRENCE" "Lcom/example/metier/metier/report/Column;" (.ref w4)) (ha4 : ¬ (a1 = w2)) (ha11 : a1 = w4) :
    MetFree l (⟨"com/example/metier/metier/report/Column", "numeric", "()Z"⟩ : MethodName) (head1 (Jvm.Cond.code (⟨"com/example/metier/metier/report/Column", "numeric", "()Z"⟩ : MethodName) prog_46_method_5_code 1 (some .boolean) :: ws) ({ frames := 0, cells := 0, slots := 0, locals := 0 } : Room)) (fun a U => a = #[(.ref a1)] ∧ Z.Warmed39 U.vm ∧ U.heap = h0) (fun _ _ _ _ _ => True) (fun _ U o U' => ∃ v L, o = .returned v ∧ Q1_ff Z a1 w2 w4 h0 n0 v U'.heap L ∧ FrameEnd U o U' L ({ frames := 0, cells := 0, slots := 0, locals := 0 } : Room).cells ({ frames := 0, cells := 0, slots := 0, locals := 0 } : Room).slots) := by
  refine MetFree.of_bodySF (plainFor_of_name pn_1) hisR ?_
  intro p e s m args below meth c s₁ Bd hml0 hP hK
  obtain ⟨rfl, hZ, hh⟩ := hP
  have hx := Bd.exec
  have hby := Bd.bytes
  have hml : c.maxLocals = 1 := hml0
  have hown : s.vm.findClass "com/example/metier/metier/report/Column" = some m.cls := findClass_of_methodNamed Bd.named
  have hnm := (name_of_methodNamed Bd.named Bd.method).1
  have X0 : Stand p l e ({ frames := 0, cells := 0, slots := 0, locals := 0 } : Room) s m #[(.ref a1)] below meth c s₁ [] 0 0 := Stand.of_body Bd
  have e0 : s₁.heap = h0 := by rw [← hh, Bd.state]; rfl
  have N0 := Fr.nil n0
  have pre0 : ∀ t, Steps p.tables e below (s₁.setTop (mkF m 0 #[.val (.ref a1)] [])) t → Steps p.tables e below (s₁.setTop (entryFrame m #[(.ref a1)] 1)) t := fun t k => castTop (ef_1 m a1) k
  obtain ⟨T3, X3, e3, st3⟩ := getS2 X0 hx hZ hown (host := "") (Or.inl (hw _ (List.mem_of_getElem? (i := 29) rfl))) Via.refl e0 S_RECORD (g := (mkF m 1 #[.val (.ref a1)] [(.ref a1)])) rfl (hb hby d1_1)
  obtain ⟨T5, X5, e5, st5⟩ := getS2 X3 hx hZ hown (host := "") (Or.inl (hw _ (List.mem_of_getElem? (i := 30) rfl))) Via.refl e3 S_OCCURRENCE (g := (mkF m 8 #[.val (.ref a1)] [(.ref a1)])) rfl (hb hby d1_8)
  obtain ⟨fs, hr, hrun, hended, hW, hsame⟩ := X5.leave (v := some (.int (1 : Int32))) (fun h => by rw [Bd.returns] at h; cases h)
  refine ⟨_, _, pre0 _ ?_, hrun, hended, _, _, rfl, ?_, ⟨_, rfl⟩, hW, hsame.mono (by decide) (by decide)⟩
  · show Steps p.tables e below (s₁.setTop (mkF m 0 #[.val (.ref a1)] [])) _
    refine XS.aloadN X0.here hx rfl (hb hby d1_0) rfl rfl ?_
    show Steps p.tables e below (s₁.setTop (mkF m 1 #[.val (.ref a1)] [(.ref a1)])) _
    refine st3 _ ?_
    show Steps p.tables e below (T3.setTop (mkF m 4 #[.val (.ref a1)] [(.ref w2), (.ref a1)])) _
    refine Jvm.RoadKit.acmp (g := (mkF m 4 #[.val (.ref a1)] [(.ref w2), (.ref a1)])) X3 hx rfl rfl rfl (pc0 := 4) (pc' := 7) (same := false) rfl (hb hby d1_4) rfl (decide_eq_false fun q => ha4 (Value.ref.inj q)) (by decide) (by decide) ?_
    show Steps p.tables e below (T3.setTop (mkF m 7 #[.val (.ref a1)] [])) _
    refine XS.aloadN X3.here hx rfl (hb hby d1_7) rfl rfl ?_
    show Steps p.tables e below (T3.setTop (mkF m 8 #[.val (.ref a1)] [(.ref a1)])) _
    refine st5 _ ?_
    show Steps p.tables e below (T5.setTop (mkF m 11 #[.val (.ref a1)] [(.ref w4), (.ref a1)])) _
    refine Jvm.RoadKit.acmp (g := (mkF m 11 #[.val (.ref a1)] [(.ref w4), (.ref a1)])) X5 hx rfl rfl rfl (pc0 := 11) (pc' := 14) (same := true) rfl (hb hby d1_11) rfl (decide_eq_true (congrArg Value.ref ha11)) (by decide) (by decide) ?_
    show Steps p.tables e below (T5.setTop (mkF m 14 #[.val (.ref a1)] [])) _
    refine XS.iconst X5.here hx rfl (hb hby d1_14) ?_
    show Steps p.tables e below (T5.setTop (mkF m 15 #[.val (.ref a1)] [(.int (1 : Int32))])) _
    refine XS.goto X5.here hx rfl (pc0 := 15) (pc' := 19) rfl (hb hby d1_15) (by decide) (by decide) ?_
    show Steps p.tables e below (T5.setTop (mkF m 19 #[.val (.ref a1)] [(.int (1 : Int32))])) _
    exact retN X5 hx (t := .boolean) Bd.returns (by simp) (hb hby d1_19) hr
  · show Q1_ff Z a1 w2 w4 h0 n0 _ T5.heap _
    rw [e5]
    exact ⟨rfl, N0, rfl⟩
theorem d1_18 : decode prog_46_method_5_code 18 = .ok (.iconst 0, 1) := by decide +kernel
def Q1_ft (Z : State) (a1 : Addr) (w2 : Addr) (w4 : Addr) (h0 : Heap) (n0 : Nat) (v : Option Value) (h : Heap) (L : List Loc) : Prop := v = some (.int (0 : Int32)) ∧ Fr n0 L ∧ h = h0
set_option maxRecDepth 65536 in
set_option maxHeartbeats 40000000 in
theorem rm1_ft (l : Launch) (Z : State) (a0 : Array Value) (hw : ∀ d ∈ tables_1, d.before a0 Z = true) (ws : List Jvm.Cond) (a1 : Addr) (w2 : Addr) (w4 : Addr) (h0 : Heap) (n0 : Nat) (Z0 : n0 ≤ h0.size) (S_RECORD : Sta Z h0 "com/example/metier/metier/report/Column" "RECORD" "Lcom/example/metier/metier/report/Column;" (.ref w2)) (S_OCCURRENCE : Sta Z h0 "com/example/metier/metier/report/Column" "OCCURRENCE" "Lcom/example/metier/metier/report/Column;" (.ref w4)) (ha4 : ¬ (a1 = w2)) (ha11 : ¬ (a1 = w4)) :
    MetFree l (⟨"com/example/metier/metier/report/Column", "numeric", "()Z"⟩ : MethodName) (head1 (Jvm.Cond.code (⟨"com/example/metier/metier/report/Column", "numeric", "()Z"⟩ : MethodName) prog_46_method_5_code 1 (some .boolean) :: ws) ({ frames := 0, cells := 0, slots := 0, locals := 0 } : Room)) (fun a U => a = #[(.ref a1)] ∧ Z.Warmed39 U.vm ∧ U.heap = h0) (fun _ _ _ _ _ => True) (fun _ U o U' => ∃ v L, o = .returned v ∧ Q1_ft Z a1 w2 w4 h0 n0 v U'.heap L ∧ FrameEnd U o U' L ({ frames := 0, cells := 0, slots := 0, locals := 0 } : Room).cells ({ frames := 0, cells := 0, slots := 0, locals := 0 } : Room).slots) := by
  refine MetFree.of_bodySF (plainFor_of_name pn_1) hisR ?_
  intro p e s m args below meth c s₁ Bd hml0 hP hK
  obtain ⟨rfl, hZ, hh⟩ := hP
  have hx := Bd.exec
  have hby := Bd.bytes
  have hml : c.maxLocals = 1 := hml0
  have hown : s.vm.findClass "com/example/metier/metier/report/Column" = some m.cls := findClass_of_methodNamed Bd.named
  have hnm := (name_of_methodNamed Bd.named Bd.method).1
  have X0 : Stand p l e ({ frames := 0, cells := 0, slots := 0, locals := 0 } : Room) s m #[(.ref a1)] below meth c s₁ [] 0 0 := Stand.of_body Bd
  have e0 : s₁.heap = h0 := by rw [← hh, Bd.state]; rfl
  have N0 := Fr.nil n0
  have pre0 : ∀ t, Steps p.tables e below (s₁.setTop (mkF m 0 #[.val (.ref a1)] [])) t → Steps p.tables e below (s₁.setTop (entryFrame m #[(.ref a1)] 1)) t := fun t k => castTop (ef_1 m a1) k
  obtain ⟨T3, X3, e3, st3⟩ := getS2 X0 hx hZ hown (host := "") (Or.inl (hw _ (List.mem_of_getElem? (i := 29) rfl))) Via.refl e0 S_RECORD (g := (mkF m 1 #[.val (.ref a1)] [(.ref a1)])) rfl (hb hby d1_1)
  obtain ⟨T5, X5, e5, st5⟩ := getS2 X3 hx hZ hown (host := "") (Or.inl (hw _ (List.mem_of_getElem? (i := 30) rfl))) Via.refl e3 S_OCCURRENCE (g := (mkF m 8 #[.val (.ref a1)] [(.ref a1)])) rfl (hb hby d1_8)
  obtain ⟨fs, hr, hrun, hended, hW, hsame⟩ := X5.leave (v := some (.int (0 : Int32))) (fun h => by rw [Bd.returns] at h; cases h)
  refine ⟨_, _, pre0 _ ?_, hrun, hended, _, _, rfl, ?_, ⟨_, rfl⟩, hW, hsame.mono (by decide) (by decide)⟩
  · show Steps p.tables e below (s₁.setTop (mkF m 0 #[.val (.ref a1)] [])) _
    refine XS.aloadN X0.here hx rfl (hb hby d1_0) rfl rfl ?_
    show Steps p.tables e below (s₁.setTop (mkF m 1 #[.val (.ref a1)] [(.ref a1)])) _
    refine st3 _ ?_
    show Steps p.tables e below (T3.setTop (mkF m 4 #[.val (.ref a1)] [(.ref w2), (.ref a1)])) _
    refine Jvm.RoadKit.acmp (g := (mkF m 4 #[.val (.ref a1)] [(.ref w2), (.ref a1)])) X3 hx rfl rfl rfl (pc0 := 4) (pc' := 7) (same := false) rfl (hb hby d1_4) rfl (decide_eq_false fun q => ha4 (Value.ref.inj q)) (by decide) (by decide) ?_
    show Steps p.tables e below (T3.setTop (mkF m 7 #[.val (.ref a1)] [])) _
    refine XS.aloadN X3.here hx rfl (hb hby d1_7) rfl rfl ?_
    show Steps p.tables e below (T3.setTop (mkF m 8 #[.val (.ref a1)] [(.ref a1)])) _
    refine st5 _ ?_
    show Steps p.tables e below (T5.setTop (mkF m 11 #[.val (.ref a1)] [(.ref w4), (.ref a1)])) _
    refine Jvm.RoadKit.acmp (g := (mkF m 11 #[.val (.ref a1)] [(.ref w4), (.ref a1)])) X5 hx rfl rfl rfl (pc0 := 11) (pc' := 18) (same := false) rfl (hb hby d1_11) rfl (decide_eq_false fun q => ha11 (Value.ref.inj q)) (by decide) (by decide) ?_
    show Steps p.tables e below (T5.setTop (mkF m 18 #[.val (.ref a1)] [])) _
    refine XS.iconst X5.here hx rfl (hb hby d1_18) ?_
    show Steps p.tables e below (T5.setTop (mkF m 19 #[.val (.ref a1)] [(.int (0 : Int32))])) _
    exact retN X5 hx (t := .boolean) Bd.returns (by simp) (hb hby d1_19) hr
  · show Q1_ft Z a1 w2 w4 h0 n0 _ T5.heap _
    rw [e5]
    exact ⟨rfl, N0, rfl⟩
def Qc (r : Int32) (h0 : Heap) (n0 : Nat) (v : Option Value) (h : Heap) (L : List Loc) : Prop := v = some (.int r) ∧ Fr n0 L ∧ h = h0
theorem own_c (l : Launch) (Z : State) (a0 : Array Value) (hw : ∀ d ∈ tables_1, d.before a0 Z = true) (ws : List Jvm.Cond) (a1 : Addr) (w2 : Addr) (w4 : Addr) (h0 : Heap) (n0 : Nat) (Z0 : n0 ≤ h0.size) (S_RECORD : Sta Z h0 "com/example/metier/metier/report/Column" "RECORD" "Lcom/example/metier/metier/report/Column;" (.ref w2)) (S_OCCURRENCE : Sta Z h0 "com/example/metier/metier/report/Column" "OCCURRENCE" "Lcom/example/metier/metier/report/Column;" (.ref w4)) (r : Int32) (hr : r = if a1 = w2 ∨ a1 = w4 then (1 : Int32) else (0 : Int32)) :
    MetFree l (⟨"com/example/metier/metier/report/Column", "numeric", "()Z"⟩ : MethodName) (head1 (Jvm.Cond.code (⟨"com/example/metier/metier/report/Column", "numeric", "()Z"⟩ : MethodName) prog_46_method_5_code 1 (some .boolean) :: ws) ({ frames := 0, cells := 0, slots := 0, locals := 0 } : Room)) (fun a U => a = #[(.ref a1)] ∧ Z.Warmed39 U.vm ∧ U.heap = h0) (fun _ _ _ _ _ => True) (fun _ U o U' => ∃ v L, o = .returned v ∧ Qc r h0 n0 v U'.heap L ∧ FrameEnd U o U' L ({ frames := 0, cells := 0, slots := 0, locals := 0 } : Room).cells ({ frames := 0, cells := 0, slots := 0, locals := 0 } : Room).slots) := by
  by_cases q1 : a1 = w2
  · rw [if_pos (Or.inl q1)] at hr
    subst hr
    exact rm1_t l Z a0 hw ws a1 w2 h0 n0 Z0 S_RECORD q1
  · by_cases q2 : a1 = w4
    · rw [if_pos (Or.inr q2)] at hr
      subst hr
      exact rm1_ff l Z a0 hw ws a1 w2 w4 h0 n0 Z0 S_RECORD S_OCCURRENCE q1 q2
    · rw [if_neg (fun q => q.elim q1 q2)] at hr
      subst hr
      exact rm1_ft l Z a0 hw ws a1 w2 w4 h0 n0 Z0 S_RECORD S_OCCURRENCE q1 q2
def own_names : List String := ["FILE", "RECORD", "ID", "TAG", "OCCURRENCE", "SEVERITY", "RULE", "DETAIL", "MESSAGE"]
abbrev own_S (Z : State) (w : Nat → Addr) : Prop := ∀ i, i < 9 → Sta Z Z.heap "com/example/metier/metier/report/Column" (own_names.getD i "") "Lcom/example/metier/metier/report/Column;" (.ref (w i)) ∧ Exa Z Z.heap (w i) "com/example/metier/metier/report/Column"
def own_w (L : List Addr) (k : Nat) : Addr := L.getD k 0
theorem own_get (w : Nat → Addr) {j n : Nat} (h : j < n) : ((List.range n).map fun q => Value.ref (w q)).getD j .null = .ref (w j) := by
  simp [List.getD_eq_getElem?_getD, h]
theorem own_inj {s : State} {w : Nat → Addr} {C n d : String} {N : Nat} (hN : N ≤ 2 ^ 31) (h : ∀ i, i < N → s.fieldOf? (w i) C n d = some (.int (Int32.ofNat i))) {i j : Nat} (hi : i < N) (hj : j < N) (e : w i = w j) : i = j := by
  have q := (h i hi).symm.trans ((congrArg (fun a => s.fieldOf? a C n d) e).trans (h j hj))
  have q2 : (Int32.ofNat i).toInt = (Int32.ofNat j).toInt := congrArg Int32.toInt (Value.int.inj (Option.some.inj q))
  have e1 : (Int32.ofNat i).toInt = i := len_toInt (Nat.lt_of_lt_of_le hi hN)
  have e2 : (Int32.ofNat j).toInt = j := len_toInt (Nat.lt_of_lt_of_le hj hN)
  omega
theorem own_lt {j z : Int32} {n : Nat} (hz : z.toNatClampNeg = n) (q : ¬ j < 0 ∧ j < z) : j.toNatClampNeg < n := by
  subst hz
  obtain ⟨q1, q2⟩ := q
  have e0 : (0 : Int32).toInt = 0 := rfl
  simp only [Int32.lt_iff_toInt_lt, Int32.toNatClampNeg, e0] at *; omega
set_option maxRecDepth 65536 in
set_option maxHeartbeats 40000000 in
theorem own_pre {p : Program} {l : Launch} {e : Env} {s : State} {m : MethodId} {args : Array Value} {below : List Frame} {meth : Method} {c : Code} {T0 : State} {Z : State} {a0 : Array Value} {h0 : Heap} (hw : ∀ d ∈ tables_1, d.before a0 Z = true)
    (X0 : Stand p l e room_1 s m args below meth c T0 [] 0 0) (hx : p.tables.exec = Jvm.exec) (hby : c.code = code) (hZ : Z.Warmed39 s.vm) (hown : s.vm.findClass "com/example/metier/metier/report/ColumnNumericPinLaw" = some m.cls) (e0 : T0.heap = h0) {n0 : Nat} (O0 : Old Z n0 h0) (Z0 : n0 ≤ h0.size) (w : Nat → Addr) (hS : own_S Z w) (Ls : Array Slot) :
    ∃ T h b k locs, Stand p l e room_1 s m args below meth c T locs 1 9 ∧ T.heap = h ∧ Old Z n0 h ∧ Fr n0 locs ∧ n0 ≤ b ∧ Arv Z h b k (.object "com/example/metier/metier/report/Column") (9 : Int32) ((List.range 9).map fun q => Value.ref (w q)) .null ∧
      ∀ target, Steps p.tables e below (T.setTop (mkF m 62 Ls [.ref b])) target → Steps p.tables e below (T0.setTop (mkF m 0 Ls [])) target := by
  obtain ⟨T1, h1, k1, X1, e1, E1, A1, Ov, st1⟩ := newR X0 hx hZ hown (hw _ (List.mem_of_getElem? (i := 0) rfl)) (hw _ (List.mem_of_getElem? (i := 1) rfl)) e0 (g := (mkF m 2 Ls [(.int (9 : Int32))])) rfl (hb hby at_2) rfl (by decide) (cap := 9) (by decide) (by decide) (by decide) (by decide)
  obtain ⟨b, g1⟩ : ∃ z, z = h0.size := ⟨_, rfl⟩
  rw [← g1] at A1 st1
  have gb : n0 ≤ b := Nat.le_trans Z0 (Nat.le_of_eq g1.symm)
  have V0 : Arv Z h1 b k1 (.object "com/example/metier/metier/report/Column") (9 : Int32) ((List.range 0).map fun q => Value.ref (w q)) .null := Arv.new A1 (by decide)
  have O1 := O0.ext E1
  have N1 := Fr.nil n0
  obtain ⟨TF0, hF0, lF0, XF0, eF0, OF0, NF0, VF0, -, stF0⟩ := own_fill X1 hx hZ hown (hw _ (List.mem_of_getElem? (i := 2) rfl)) e1 O1 N1 V0 Ov gb (hS 0 (by decide)).1 (hS 0 (by decide)).2 (i := 0) (pc := 5) (q := 7) (Ls := Ls) (j := (0 : Int32)) (jj := 0) (by decide) (by decide) (by decide) (hb hby at_5) (Or.inl ⟨hb hby at_6, by decide, rfl⟩) (hb hby at_7) (hb hby at_10)
  obtain ⟨TF1, hF1, lF1, XF1, eF1, OF1, NF1, VF1, -, stF1⟩ := own_fill XF0 hx hZ hown (hw _ (List.mem_of_getElem? (i := 6) rfl)) eF0 OF0 NF0 VF0 Ov gb (hS 1 (by decide)).1 (hS 1 (by decide)).2 (i := 1) (pc := 11) (q := 13) (Ls := Ls) (j := (1 : Int32)) (jj := 1) (by decide) (by decide) (by decide) (hb hby at_11) (Or.inl ⟨hb hby at_12, by decide, rfl⟩) (hb hby at_13) (hb hby at_16)
  obtain ⟨TF2, hF2, lF2, XF2, eF2, OF2, NF2, VF2, -, stF2⟩ := own_fill XF1 hx hZ hown (hw _ (List.mem_of_getElem? (i := 8) rfl)) eF1 OF1 NF1 VF1 Ov gb (hS 2 (by decide)).1 (hS 2 (by decide)).2 (i := 2) (pc := 17) (q := 19) (Ls := Ls) (j := (2 : Int32)) (jj := 2) (by decide) (by decide) (by decide) (hb hby at_17) (Or.inl ⟨hb hby at_18, by decide, rfl⟩) (hb hby at_19) (hb hby at_22)
  obtain ⟨TF3, hF3, lF3, XF3, eF3, OF3, NF3, VF3, -, stF3⟩ := own_fill XF2 hx hZ hown (hw _ (List.mem_of_getElem? (i := 10) rfl)) eF2 OF2 NF2 VF2 Ov gb (hS 3 (by decide)).1 (hS 3 (by decide)).2 (i := 3) (pc := 23) (q := 25) (Ls := Ls) (j := (3 : Int32)) (jj := 3) (by decide) (by decide) (by decide) (hb hby at_23) (Or.inl ⟨hb hby at_24, by decide, rfl⟩) (hb hby at_25) (hb hby at_28)
  obtain ⟨TF4, hF4, lF4, XF4, eF4, OF4, NF4, VF4, -, stF4⟩ := own_fill XF3 hx hZ hown (hw _ (List.mem_of_getElem? (i := 12) rfl)) eF3 OF3 NF3 VF3 Ov gb (hS 4 (by decide)).1 (hS 4 (by decide)).2 (i := 4) (pc := 29) (q := 31) (Ls := Ls) (j := (4 : Int32)) (jj := 4) (by decide) (by decide) (by decide) (hb hby at_29) (Or.inl ⟨hb hby at_30, by decide, rfl⟩) (hb hby at_31) (hb hby at_34)
  obtain ⟨TF5, hF5, lF5, XF5, eF5, OF5, NF5, VF5, -, stF5⟩ := own_fill XF4 hx hZ hown (hw _ (List.mem_of_getElem? (i := 14) rfl)) eF4 OF4 NF4 VF4 Ov gb (hS 5 (by decide)).1 (hS 5 (by decide)).2 (i := 5) (pc := 35) (q := 37) (Ls := Ls) (j := (5 : Int32)) (jj := 5) (by decide) (by decide) (by decide) (hb hby at_35) (Or.inl ⟨hb hby at_36, by decide, rfl⟩) (hb hby at_37) (hb hby at_40)
  obtain ⟨TF6, hF6, lF6, XF6, eF6, OF6, NF6, VF6, -, stF6⟩ := own_fill XF5 hx hZ hown (hw _ (List.mem_of_getElem? (i := 16) rfl)) eF5 OF5 NF5 VF5 Ov gb (hS 6 (by decide)).1 (hS 6 (by decide)).2 (i := 6) (pc := 41) (q := 44) (Ls := Ls) (j := (6 : Int32)) (jj := 6) (by decide) (by decide) (by decide) (hb hby at_41) (Or.inr ⟨hb hby at_42, by decide, rfl⟩) (hb hby at_44) (hb hby at_47)
  obtain ⟨TF7, hF7, lF7, XF7, eF7, OF7, NF7, VF7, -, stF7⟩ := own_fill XF6 hx hZ hown (hw _ (List.mem_of_getElem? (i := 18) rfl)) eF6 OF6 NF6 VF6 Ov gb (hS 7 (by decide)).1 (hS 7 (by decide)).2 (i := 7) (pc := 48) (q := 51) (Ls := Ls) (j := (7 : Int32)) (jj := 7) (by decide) (by decide) (by decide) (hb hby at_48) (Or.inr ⟨hb hby at_49, by decide, rfl⟩) (hb hby at_51) (hb hby at_54)
  obtain ⟨TF8, hF8, lF8, XF8, eF8, OF8, NF8, VF8, -, stF8⟩ := own_fill XF7 hx hZ hown (hw _ (List.mem_of_getElem? (i := 20) rfl)) eF7 OF7 NF7 VF7 Ov gb (hS 8 (by decide)).1 (hS 8 (by decide)).2 (i := 8) (pc := 55) (q := 58) (Ls := Ls) (j := (8 : Int32)) (jj := 8) (by decide) (by decide) (by decide) (hb hby at_55) (Or.inr ⟨hb hby at_56, by decide, rfl⟩) (hb hby at_58) (hb hby at_61)
  refine ⟨TF8, hF8, b, k1, lF8, XF8, eF8, OF8, NF8, gb, VF8, fun target ht => ?_⟩
  refine XS.bipush X0.here hx rfl (hb hby at_0) ?_
  refine st1 _ ?_
  refine stF0 _ ?_
  refine stF1 _ ?_
  refine stF2 _ ?_
  refine stF3 _ ?_
  refine stF4 _ ?_
  refine stF5 _ ?_
  refine stF6 _ ?_
  refine stF7 _ ?_
  refine stF8 _ ?_
  exact ht
set_option maxRecDepth 65536 in
set_option maxHeartbeats 40000000 in
theorem own_preZ {p : Program} {l : Launch} {e : Env} {s : State} {m : MethodId} {args : Array Value} {below : List Frame} {meth : Method} {c : Code} {T0 : State} {locs0 : List Loc} {Z : State} {a0 : Array Value} {h0 : Heap} (hw : ∀ d ∈ tables_1, d.before a0 Z = true)
    (X0 : Stand p l e room_1 s m args below meth c T0 locs0 1 9) (hx : p.tables.exec = Jvm.exec) (hby : c.code = code) (hZ : Z.Warmed39 s.vm) (e0 : T0.heap = h0) {n0 : Nat} (O0 : Old Z n0 h0) (N0 : Fr n0 locs0) (Z0 : n0 ≤ h0.size) (Ls : Array Slot) :
    ∃ T h b k locs, Stand p l e room_1 s m args below meth c T locs 2 18 ∧ T.heap = h ∧ Old Z n0 h ∧ Fr n0 locs ∧ b = h0.size ∧ Arv Z h b k .boolean (9 : Int32) [Value.int 0, Value.int 1, Value.int 0, Value.int 0, Value.int 1, Value.int 0, Value.int 0, Value.int 0, Value.int 0] (.int 0) ∧ Keep h0 h [] ∧
      ∀ target, Steps p.tables e below (T.setTop (mkF m 106 Ls [.ref b])) target → Steps p.tables e below (T0.setTop (mkF m 63 Ls [])) target := by
  obtain ⟨T1, h1, k1, X1, e1, E1, A1, st1⟩ := newP X0 hx hZ (hw _ (List.mem_of_getElem? (i := 22) rfl)) e0 (g := (mkF m 65 Ls [(.int (9 : Int32))])) rfl (hb hby at_65) rfl (by decide) (cap := 9) (by decide) (by decide) (by decide) (by decide)
  obtain ⟨b, g1⟩ : ∃ z, z = h0.size := ⟨_, rfl⟩
  rw [← g1] at A1 st1
  have gb : n0 ≤ b := Nat.le_trans Z0 (Nat.le_of_eq g1.symm)
  have sb : h0.size ≤ b := Nat.le_of_eq g1.symm
  have V0 : Arv Z h1 b k1 .boolean (9 : Int32) [] (.int 0) := Arv.new A1 (by decide)
  have O1 := O0.ext E1
  have K1 : Keep h0 h1 [] := (Keep.refl h0 []).ext E1
  obtain ⟨TF0, hF0, lF0, XF0, eF0, OF0, NF0, VF0, kF0, stF0⟩ := own_fillZ X1 hx hZ e1 O1 N0 V0 gb (pc := 67) (q := 69) (Ls := Ls) (j := (0 : Int32)) (y := (0 : Int32)) (jj := 0) (yy := 0) (by decide) (by decide) (by decide) (by decide) (hb hby at_67) (Or.inl ⟨hb hby at_68, by decide, rfl⟩) (hb hby at_69) (hb hby at_70)
  have KF0 : Keep h0 hF0 [] := K1.trans kF0 (fun x hx => by cases List.mem_singleton.mp hx; exact Or.inr sb)
  obtain ⟨TF1, hF1, lF1, XF1, eF1, OF1, NF1, VF1, kF1, stF1⟩ := own_fillZ XF0 hx hZ eF0 OF0 NF0 VF0 gb (pc := 71) (q := 73) (Ls := Ls) (j := (1 : Int32)) (y := (1 : Int32)) (jj := 1) (yy := 1) (by decide) (by decide) (by decide) (by decide) (hb hby at_71) (Or.inl ⟨hb hby at_72, by decide, rfl⟩) (hb hby at_73) (hb hby at_74)
  have KF1 : Keep h0 hF1 [] := KF0.trans kF1 (fun x hx => by cases List.mem_singleton.mp hx; exact Or.inr sb)
  obtain ⟨TF2, hF2, lF2, XF2, eF2, OF2, NF2, VF2, kF2, stF2⟩ := own_fillZ XF1 hx hZ eF1 OF1 NF1 VF1 gb (pc := 75) (q := 77) (Ls := Ls) (j := (2 : Int32)) (y := (0 : Int32)) (jj := 2) (yy := 0) (by decide) (by decide) (by decide) (by decide) (hb hby at_75) (Or.inl ⟨hb hby at_76, by decide, rfl⟩) (hb hby at_77) (hb hby at_78)
  have KF2 : Keep h0 hF2 [] := KF1.trans kF2 (fun x hx => by cases List.mem_singleton.mp hx; exact Or.inr sb)
  obtain ⟨TF3, hF3, lF3, XF3, eF3, OF3, NF3, VF3, kF3, stF3⟩ := own_fillZ XF2 hx hZ eF2 OF2 NF2 VF2 gb (pc := 79) (q := 81) (Ls := Ls) (j := (3 : Int32)) (y := (0 : Int32)) (jj := 3) (yy := 0) (by decide) (by decide) (by decide) (by decide) (hb hby at_79) (Or.inl ⟨hb hby at_80, by decide, rfl⟩) (hb hby at_81) (hb hby at_82)
  have KF3 : Keep h0 hF3 [] := KF2.trans kF3 (fun x hx => by cases List.mem_singleton.mp hx; exact Or.inr sb)
  obtain ⟨TF4, hF4, lF4, XF4, eF4, OF4, NF4, VF4, kF4, stF4⟩ := own_fillZ XF3 hx hZ eF3 OF3 NF3 VF3 gb (pc := 83) (q := 85) (Ls := Ls) (j := (4 : Int32)) (y := (1 : Int32)) (jj := 4) (yy := 1) (by decide) (by decide) (by decide) (by decide) (hb hby at_83) (Or.inl ⟨hb hby at_84, by decide, rfl⟩) (hb hby at_85) (hb hby at_86)
  have KF4 : Keep h0 hF4 [] := KF3.trans kF4 (fun x hx => by cases List.mem_singleton.mp hx; exact Or.inr sb)
  obtain ⟨TF5, hF5, lF5, XF5, eF5, OF5, NF5, VF5, kF5, stF5⟩ := own_fillZ XF4 hx hZ eF4 OF4 NF4 VF4 gb (pc := 87) (q := 89) (Ls := Ls) (j := (5 : Int32)) (y := (0 : Int32)) (jj := 5) (yy := 0) (by decide) (by decide) (by decide) (by decide) (hb hby at_87) (Or.inl ⟨hb hby at_88, by decide, rfl⟩) (hb hby at_89) (hb hby at_90)
  have KF5 : Keep h0 hF5 [] := KF4.trans kF5 (fun x hx => by cases List.mem_singleton.mp hx; exact Or.inr sb)
  obtain ⟨TF6, hF6, lF6, XF6, eF6, OF6, NF6, VF6, kF6, stF6⟩ := own_fillZ XF5 hx hZ eF5 OF5 NF5 VF5 gb (pc := 91) (q := 94) (Ls := Ls) (j := (6 : Int32)) (y := (0 : Int32)) (jj := 6) (yy := 0) (by decide) (by decide) (by decide) (by decide) (hb hby at_91) (Or.inr ⟨hb hby at_92, by decide, rfl⟩) (hb hby at_94) (hb hby at_95)
  have KF6 : Keep h0 hF6 [] := KF5.trans kF6 (fun x hx => by cases List.mem_singleton.mp hx; exact Or.inr sb)
  obtain ⟨TF7, hF7, lF7, XF7, eF7, OF7, NF7, VF7, kF7, stF7⟩ := own_fillZ XF6 hx hZ eF6 OF6 NF6 VF6 gb (pc := 96) (q := 99) (Ls := Ls) (j := (7 : Int32)) (y := (0 : Int32)) (jj := 7) (yy := 0) (by decide) (by decide) (by decide) (by decide) (hb hby at_96) (Or.inr ⟨hb hby at_97, by decide, rfl⟩) (hb hby at_99) (hb hby at_100)
  have KF7 : Keep h0 hF7 [] := KF6.trans kF7 (fun x hx => by cases List.mem_singleton.mp hx; exact Or.inr sb)
  obtain ⟨TF8, hF8, lF8, XF8, eF8, OF8, NF8, VF8, kF8, stF8⟩ := own_fillZ XF7 hx hZ eF7 OF7 NF7 VF7 gb (pc := 101) (q := 104) (Ls := Ls) (j := (8 : Int32)) (y := (0 : Int32)) (jj := 8) (yy := 0) (by decide) (by decide) (by decide) (by decide) (hb hby at_101) (Or.inr ⟨hb hby at_102, by decide, rfl⟩) (hb hby at_104) (hb hby at_105)
  have KF8 : Keep h0 hF8 [] := KF7.trans kF8 (fun x hx => by cases List.mem_singleton.mp hx; exact Or.inr sb)
  refine ⟨TF8, hF8, b, k1, lF8, XF8, eF8, OF8, NF8, g1, VF8, KF8, fun target ht => ?_⟩
  refine XS.bipush X0.here hx rfl (hb hby at_63) ?_
  refine st1 _ ?_
  refine stF0 _ ?_
  refine stF1 _ ?_
  refine stF2 _ ?_
  refine stF3 _ ?_
  refine stF4 _ ?_
  refine stF5 _ ?_
  refine stF6 _ ?_
  refine stF7 _ ?_
  refine stF8 _ ?_
  exact ht
def Q0 (n0 : Nat) (v : Option Value) (L : List Loc) : Prop := v = some (.int (1 : Int32)) ∧ Fr n0 L
theorem pn_0 : plainName "com/example/metier/metier/report/ColumnNumericPinLaw" = true := by first | (simp [plainName, overriddenIn]; done) | decide +kernel
theorem pd_0_0 : parseMethodDescriptor "()Z" = some ⟨[], some .boolean⟩ := by decide +kernel
theorem ef_0 (m : MethodId) (x0 : Int32) : entryFrame m #[(.int x0)] maxLocals = mkF m 0 #[.val (.int x0), .unset, .unset, .unset] [] := by first | (simp [entryFrame, mkF, argsToLocals, Value.category, maxLocals]; done) | rfl
set_option maxRecDepth 65536 in
set_option maxHeartbeats 40000000 in
theorem rm0_f (l : Launch) (Z : State) (a0 : Array Value) (hw : ∀ d ∈ tables_1, d.before a0 Z = true) (ws : List Jvm.Cond) (p1 : Int32) (w : Nat → Addr) (h0 : Heap) (n0 : Nat) (Z0 : n0 ≤ h0.size) (O0 : Old Z n0 h0) (hS : own_S Z w) (w42 : Int32) (h42 : ([Value.int 0, Value.int 1, Value.int 0, Value.int 0, Value.int 1, Value.int 0, Value.int 0, Value.int 0, Value.int 0] : List Value).getD ((p1 &&& (2147483647 : Int32)) % (9 : Int32)).toNatClampNeg (.int 0) = .int w42) (hr : w42 = if (w ((p1 &&& (2147483647 : Int32)) % (9 : Int32)).toNatClampNeg) = w 1 ∨ (w ((p1 &&& (2147483647 : Int32)) % (9 : Int32)).toNatClampNeg) = w 4 then (1 : Int32) else (0 : Int32))  :
    MetFree l x (head1 (Jvm.Cond.code x code maxLocals ret :: ws) room_1) (fun a U => a = #[(.int p1)] ∧ Z.Warmed39 U.vm ∧ U.heap = h0) (fun _ _ _ _ _ => True) (fun _ U o U' => ∃ v L, o = .returned v ∧ Q0 n0 v L ∧ FrameEnd U o U' L room_1.cells room_1.slots) := by
  refine MetFree.of_bodySF (plainFor_of_name pn_0) hisR ?_
  intro p e s m args below meth c s₁ Bd hml0 hP hK
  obtain ⟨rfl, hZ, hh⟩ := hP
  have hx := Bd.exec
  have hby := Bd.bytes
  have hml : c.maxLocals = 4 := hml0
  have hown : s.vm.findClass "com/example/metier/metier/report/ColumnNumericPinLaw" = some m.cls := findClass_of_methodNamed Bd.named
  have hnm := (name_of_methodNamed Bd.named Bd.method).1
  have X0 : Stand p l e room_1 s m #[(.int p1)] below meth c s₁ [] 0 0 := Stand.of_body Bd
  have e0 : s₁.heap = h0 := by rw [← hh, Bd.state]; rfl
  have N0 := Fr.nil n0
  have pre0 : ∀ t, Steps p.tables e below (s₁.setTop (mkF m 0 #[.val (.int p1), .unset, .unset, .unset] [])) t → Steps p.tables e below (s₁.setTop (entryFrame m #[(.int p1)] maxLocals)) t := fun t k => castTop (ef_0 m p1) k
  obtain ⟨TP, hP', b2, kA, lP, XP, eP, OP, NP, g_b2, VP, stP⟩ := own_pre hw X0 hx hby hZ hown e0 O0 Z0 w hS #[.val (.int p1), .unset, .unset, .unset]
  obtain ⟨TA, hA, b30, kZ, lA, XA, eA, OA, NA, g_bz, VZ, KZ, stZ'⟩ := own_preZ hw XP hx hby hZ eP OP NP (Nat.le_trans (Nat.le_of_eq OP.1.symm) OP.2.1) #[.val (.int p1), .val (.ref b2), .unset, .unset]
  have VA := VP.keep KZ own_nm
  have stA : ∀ target, Steps p.tables e below (TA.setTop (mkF m 106 #[.val (.int p1), .val (.ref b2), .unset, .unset] [.ref b30])) target → Steps p.tables e below (s₁.setTop (mkF m 0 #[.val (.int p1), .unset, .unset, .unset] [])) target := fun target ht => stP _ (XS.astoreN XP.here hx rfl (hb hby at_62) rfl rfl (l' := #[.val (.int p1), .val (.ref b2), .unset, .unset]) rfl (stZ' _ ht))
  obtain ⟨clZ, Ar_b30A, q1Z, S1Z, q3Z, HZ, GZ⟩ := VZ
  have hidx := own_idx p1 (9 : Int32) (by decide)
  have hlt : ((p1 &&& (2147483647 : Int32)) % (9 : Int32)).toNatClampNeg < 9 := own_lt (by decide) hidx
  obtain ⟨cl, Ar_b2, q1A, S1A, q3A, HA, GA⟩ := VA
  have EW : Exa Z hA (w ((p1 &&& (2147483647 : Int32)) % (9 : Int32)).toNatClampNeg) "com/example/metier/metier/report/Column" := (hS _ hlt).2.ext OA.2
  have hin117 := inb_of S1A hidx
  have hat117 := HA.at hin117 (own_get w hlt)
  have Ar_b30 := Ar_b30A
  have hin123 := inb_of S1Z hidx
  have hat123 := HZ.at hin123 h42
  obtain ⟨cq41, kq41, q41a, q41b, q41c⟩ := isOf hZ eA EW
  obtain ⟨_, _, ⟨T41, L41, k41, n41⟩, -, X41, ⟨Lc41, hQ41, l41, y41, z41⟩, st41⟩ := XA.virtualBack hx (y := (⟨"com/example/metier/metier/report/Column", "numeric", "()Z"⟩ : MethodName)) (z := (⟨"com/example/metier/metier/report/Column", "numeric", "()Z"⟩ : MethodName)) hown (mvT hZ (hw _ (List.mem_of_getElem? (i := 24) rfl))) (mvT hZ (hw _ (List.mem_of_getElem? (i := 25) rfl))) (notFace_of_selects (args := #[]) (mvT hZ (hw _ (List.mem_of_getElem? (i := 27) rfl)))) (mvT hZ (hw _ (List.mem_of_getElem? (i := 27) rfl))) (mvT hZ (hw _ (List.mem_of_getElem? (i := 26) rfl))) (by decide) (backOf (W := 0) (own_c l Z a0 hw [] (w ((p1 &&& (2147483647 : Int32)) % (9 : Int32)).toNatClampNeg) (w 1) (w 4) hA n0 (Nat.le_trans (Nat.le_of_eq OA.1.symm) OA.2.1) ((hS 1 (by decide)).1.ext OA.2) ((hS 4 (by decide)).1.ext OA.2) w42 hr) hZ (hw _ (List.mem_of_getElem? (i := 28) rfl)) (hw _ (List.mem_of_getElem? (i := 3) rfl)) (by decide) (by decide)) q41a q41c (g := (mkF m 118 #[.val (.int p1), .val (.ref b2), .val (.ref b30), .val (.int ((p1 &&& (2147483647 : Int32)) % (9 : Int32)))] [(.ref (w ((p1 &&& (2147483647 : Int32)) % (9 : Int32)).toNatClampNeg))])) rfl (by rw [hml]; rfl) (Steps.refl _) (argsL := []) (rest := []) (lenOf pd_0_0 rfl) rfl (by show 2 * 0 + _ ≤ _; exact Nat.le_of_eq rfl) (hb hby at_118) (fun _ _ => ⟨rfl, eA, (by decide : 2 + 0 ≤ _), (by decide : 18 + 0 ≤ _)⟩)
  dsimp only [Pt.U, Pt.locs, Pt.cells, Pt.slots] at X41 l41 y41 z41 st41 hQ41
  subst l41 y41 z41
  obtain ⟨rfl, N41q, hh41⟩ := hQ41
  have N41 := Fr.app NA N41q
  obtain ⟨fs, hr, hrun, hended, hW, hsame⟩ := X41.leave (v := some (.int (1 : Int32))) (fun h => by rw [Bd.returns] at h; cases h)
  refine ⟨_, _, pre0 _ ?_, hrun, hended, _, _, rfl, ?_, ⟨_, rfl⟩, hW, hsame.mono (by decide) (by decide)⟩
  · show Steps p.tables e below (s₁.setTop (mkF m 0 #[.val (.int p1), .unset, .unset, .unset] [])) _
    refine stA _ ?_
    show Steps p.tables e below (TA.setTop (mkF m 106 #[.val (.int p1), .val (.ref b2), .unset, .unset] [(.ref b30)])) _
    refine XS.astoreN XA.here hx rfl (hb hby at_106) rfl rfl (l' := #[.val (.int p1), .val (.ref b2), .val (.ref b30), .unset]) rfl ?_
    show Steps p.tables e below (TA.setTop (mkF m 107 #[.val (.int p1), .val (.ref b2), .val (.ref b30), .unset] [])) _
    refine XS.iloadN XA.here hx rfl (hb hby at_107) rfl ?_
    show Steps p.tables e below (TA.setTop (mkF m 108 #[.val (.int p1), .val (.ref b2), .val (.ref b30), .unset] [(.int p1)])) _
    refine XA.ldcInt hx hown (mvT hZ (hw _ (List.mem_of_getElem? (i := 23) rfl))) (g := (mkF m 108 #[.val (.int p1), .val (.ref b2), .val (.ref b30), .unset] [(.int p1)])) rfl (hb hby at_108) _ ?_
    show Steps p.tables e below (TA.setTop (mkF m 110 #[.val (.int p1), .val (.ref b2), .val (.ref b30), .unset] [(.int (2147483647 : Int32)), (.int p1)])) _
    refine XS.iand XA.here hx rfl (hb hby at_110) rfl ?_
    show Steps p.tables e below (TA.setTop (mkF m 111 #[.val (.int p1), .val (.ref b2), .val (.ref b30), .unset] [(.int (p1 &&& (2147483647 : Int32)))])) _
    refine XS.bipush XA.here hx rfl (hb hby at_111) ?_
    show Steps p.tables e below (TA.setTop (mkF m 113 #[.val (.int p1), .val (.ref b2), .val (.ref b30), .unset] [(.int (9 : Int32)), (.int (p1 &&& (2147483647 : Int32)))])) _
    refine iremM XA hx rfl (hb hby at_113) rfl (by decide) ?_
    show Steps p.tables e below (TA.setTop (mkF m 114 #[.val (.int p1), .val (.ref b2), .val (.ref b30), .unset] [(.int ((p1 &&& (2147483647 : Int32)) % (9 : Int32)))])) _
    refine XS.istoreN XA.here hx rfl (hb hby at_114) rfl (l' := #[.val (.int p1), .val (.ref b2), .val (.ref b30), .val (.int ((p1 &&& (2147483647 : Int32)) % (9 : Int32)))]) rfl ?_
    show Steps p.tables e below (TA.setTop (mkF m 115 #[.val (.int p1), .val (.ref b2), .val (.ref b30), .val (.int ((p1 &&& (2147483647 : Int32)) % (9 : Int32)))] [])) _
    refine XS.aloadN XA.here hx rfl (hb hby at_115) rfl rfl ?_
    show Steps p.tables e below (TA.setTop (mkF m 116 #[.val (.int p1), .val (.ref b2), .val (.ref b30), .val (.int ((p1 &&& (2147483647 : Int32)) % (9 : Int32)))] [(.ref b2)])) _
    refine XS.iloadN XA.here hx rfl (hb hby at_116) rfl ?_
    show Steps p.tables e below (TA.setTop (mkF m 117 #[.val (.int p1), .val (.ref b2), .val (.ref b30), .val (.int ((p1 &&& (2147483647 : Int32)) % (9 : Int32)))] [(.int ((p1 &&& (2147483647 : Int32)) % (9 : Int32))), (.ref b2)])) _
    refine XA.aaload hx (j := ((p1 &&& (2147483647 : Int32)) % (9 : Int32))) (v := (.ref (w ((p1 &&& (2147483647 : Int32)) % (9 : Int32)).toNatClampNeg))) (by rw [eA]; exact Ar_b2.1) (State.isArrayOf_alike hZ.alike Ar_b2.2.1) rfl Ar_b2.2.2 hin117 hat117 (g := (mkF m 117 #[.val (.int p1), .val (.ref b2), .val (.ref b30), .val (.int ((p1 &&& (2147483647 : Int32)) % (9 : Int32)))] [(.int ((p1 &&& (2147483647 : Int32)) % (9 : Int32))), (.ref b2)])) rfl rfl (hb hby at_117) _ ?_
    show Steps p.tables e below (TA.setTop (mkF m 118 #[.val (.int p1), .val (.ref b2), .val (.ref b30), .val (.int ((p1 &&& (2147483647 : Int32)) % (9 : Int32)))] [(.ref (w ((p1 &&& (2147483647 : Int32)) % (9 : Int32)).toNatClampNeg))])) _
    refine st41.trans ?_
    show Steps p.tables e below (T41.setTop (mkF m 121 #[.val (.int p1), .val (.ref b2), .val (.ref b30), .val (.int ((p1 &&& (2147483647 : Int32)) % (9 : Int32)))] [(.int w42)])) _
    refine XS.aloadN X41.here hx rfl (hb hby at_121) rfl rfl ?_
    show Steps p.tables e below (T41.setTop (mkF m 122 #[.val (.int p1), .val (.ref b2), .val (.ref b30), .val (.int ((p1 &&& (2147483647 : Int32)) % (9 : Int32)))] [(.ref b30), (.int w42)])) _
    refine XS.iloadN X41.here hx rfl (hb hby at_122) rfl ?_
    show Steps p.tables e below (T41.setTop (mkF m 123 #[.val (.int p1), .val (.ref b2), .val (.ref b30), .val (.int ((p1 &&& (2147483647 : Int32)) % (9 : Int32)))] [(.int ((p1 &&& (2147483647 : Int32)) % (9 : Int32))), (.ref b30), (.int w42)])) _
    refine X41.baloadBooleans hx (j := ((p1 &&& (2147483647 : Int32)) % (9 : Int32))) (v := (.int w42)) (by rw [hh41]; exact Ar_b30.1) (State.isArrayOf_alike hZ.alike Ar_b30.2.1) Ar_b30.2.2 hin123 hat123 (g := (mkF m 123 #[.val (.int p1), .val (.ref b2), .val (.ref b30), .val (.int ((p1 &&& (2147483647 : Int32)) % (9 : Int32)))] [(.int ((p1 &&& (2147483647 : Int32)) % (9 : Int32))), (.ref b30), (.int w42)])) rfl rfl (hb hby at_123) _ ?_
    show Steps p.tables e below (T41.setTop (mkF m 124 #[.val (.int p1), .val (.ref b2), .val (.ref b30), .val (.int ((p1 &&& (2147483647 : Int32)) % (9 : Int32)))] [(.int w42), (.int w42)])) _
    refine XS.icmpNo X41.here hx rfl (hb hby at_124) rfl (teq (rfl : w42 = w42)).2 ?_
    show Steps p.tables e below (T41.setTop (mkF m 127 #[.val (.int p1), .val (.ref b2), .val (.ref b30), .val (.int ((p1 &&& (2147483647 : Int32)) % (9 : Int32)))] [])) _
    refine XS.iconst X41.here hx rfl (hb hby at_127) ?_
    show Steps p.tables e below (T41.setTop (mkF m 128 #[.val (.int p1), .val (.ref b2), .val (.ref b30), .val (.int ((p1 &&& (2147483647 : Int32)) % (9 : Int32)))] [(.int (1 : Int32))])) _
    refine XS.goto X41.here hx rfl (pc0 := 128) (pc' := 132) rfl (hb hby at_128) (by decide) (by decide) ?_
    show Steps p.tables e below (T41.setTop (mkF m 132 #[.val (.int p1), .val (.ref b2), .val (.ref b30), .val (.int ((p1 &&& (2147483647 : Int32)) % (9 : Int32)))] [(.int (1 : Int32))])) _
    exact retN X41 hx (t := .boolean) Bd.returns (by simp) (hb hby at_132) hr
  · show Q0 n0 _ _
    exact ⟨rfl, N41⟩
set_option maxRecDepth 65536 in
set_option maxHeartbeats 40000000 in
theorem comes_1 {Post : Tables → Env → Array Value → State → Outcome → State → Prop} (hpost : ∀ tb e args s v u, (limb_1_1.after args s (.returned v) u = true ∧ limb_1_2.after args s (.returned v) u = true ∧ True) → FrameEnd s (.returned v) u (Jvm.fieldLocs frame_1_writes args s ++ Jvm.arrayLocs frame_1_arrays args s ++ Jvm.staticLocs frame_1_statics s) 16 128 → Post tb e args s (.returned v) u) :
    ArmFor flags0 classFile x code maxLocals ret World_1 tables_1 room_1 Calls_1 rest_1 Pre_1 Post := by
  intro l hfl _ _ p e ha hc hk s m args below hf hA hF happ hP
  obtain ⟨hcalls, hrest, hpre⟩ := hP
  obtain ⟨-, -, -, hnamed, -, -, -, hat⟩ := (Spec.applies_iff hf).mp happ
  obtain ⟨hg, hn⟩ := and_e (Cond.before_iff.mp (show (Jvm.Cond.and given_1 narrow_1).before args s = true from hpre))
  obtain ⟨g43, g44⟩ := and_e hg
  obtain ⟨w0, rfl⟩ : ∃ w0 : Value, args = #[w0] := by
    have hs : args.size = 1 := by simpa [Cond.value, given_1] using g43
    obtain ⟨L⟩ := args
    match L, hs with
    | [w0], _ => exact ⟨w0, rfl⟩
  have hw := fun d (hd : d ∈ tables_1) => atoms_spec (ws := Jvm.Cond.code x code maxLocals ret :: tables_1) hat d (List.mem_cons_of_mem _ hd)
  have hfit : Fit s := fun {y c} hc i hi => by
    obtain ⟨ha, rfl⟩ := Array.getElem?_eq_some_iff.mp hc
    have q := List.all_eq_true.mp ((Array.all_eq_true_iff_forall_mem.mp hF) _ (Array.getElem_mem ha)) i (List.mem_range.mpr hi)
    simpa [Array.getElem?_eq_getElem hi] using q
  obtain ⟨i0, ei0⟩ := is_v g44
  obtain rfl : w0 = (.int i0) := Option.some.inj ei0
  obtain ⟨x0, n0⟩ := and_e hn
  obtain ⟨x1, n1⟩ := and_e n0
  obtain ⟨x2, n2⟩ := and_e n1
  obtain ⟨x3, n3⟩ := and_e n2
  obtain ⟨x4, n4⟩ := and_e n3
  obtain ⟨x5, n5⟩ := and_e n4
  obtain ⟨x6, n6⟩ := and_e n5
  obtain ⟨x7, n7⟩ := and_e n6
  obtain ⟨x8, n8⟩ := and_e n7
  obtain ⟨o0, n9⟩ := and_e n8
  obtain ⟨o1, n10⟩ := and_e n9
  obtain ⟨o4, n11⟩ := and_e n10
  obtain ⟨o3, n12⟩ := and_e n11
  obtain ⟨o2, n13⟩ := and_e n12
  obtain ⟨o7, n14⟩ := and_e n13
  obtain ⟨o8, n15⟩ := and_e n14
  obtain ⟨o6, o5⟩ := and_e n15
  obtain ⟨a0, e0⟩ := exa_v x0
  obtain ⟨a1, e1⟩ := exa_v x1
  obtain ⟨a2, e2⟩ := exa_v x2
  obtain ⟨a3, e3⟩ := exa_v x3
  obtain ⟨a4, e4⟩ := exa_v x4
  obtain ⟨a5, e5⟩ := exa_v x5
  obtain ⟨a6, e6⟩ := exa_v x6
  obtain ⟨a7, e7⟩ := exa_v x7
  obtain ⟨a8, e8⟩ := exa_v x8
  have hS : own_S s (own_w [a0, a1, a2, a3, a4, a5, a6, a7, a8]) := fun i hi => match i, hi with
    | 0, _ => ⟨Sta.start e0 (Or.inr ⟨(hw _ (List.mem_of_getElem? (i := 3) rfl)), (hw _ (List.mem_of_getElem? (i := 4) rfl))⟩), Exa.start e0 x0⟩
    | 1, _ => ⟨Sta.start e1 (Or.inr ⟨(hw _ (List.mem_of_getElem? (i := 3) rfl)), (hw _ (List.mem_of_getElem? (i := 7) rfl))⟩), Exa.start e1 x1⟩
    | 2, _ => ⟨Sta.start e2 (Or.inr ⟨(hw _ (List.mem_of_getElem? (i := 3) rfl)), (hw _ (List.mem_of_getElem? (i := 9) rfl))⟩), Exa.start e2 x2⟩
    | 3, _ => ⟨Sta.start e3 (Or.inr ⟨(hw _ (List.mem_of_getElem? (i := 3) rfl)), (hw _ (List.mem_of_getElem? (i := 11) rfl))⟩), Exa.start e3 x3⟩
    | 4, _ => ⟨Sta.start e4 (Or.inr ⟨(hw _ (List.mem_of_getElem? (i := 3) rfl)), (hw _ (List.mem_of_getElem? (i := 13) rfl))⟩), Exa.start e4 x4⟩
    | 5, _ => ⟨Sta.start e5 (Or.inr ⟨(hw _ (List.mem_of_getElem? (i := 3) rfl)), (hw _ (List.mem_of_getElem? (i := 15) rfl))⟩), Exa.start e5 x5⟩
    | 6, _ => ⟨Sta.start e6 (Or.inr ⟨(hw _ (List.mem_of_getElem? (i := 3) rfl)), (hw _ (List.mem_of_getElem? (i := 17) rfl))⟩), Exa.start e6 x6⟩
    | 7, _ => ⟨Sta.start e7 (Or.inr ⟨(hw _ (List.mem_of_getElem? (i := 3) rfl)), (hw _ (List.mem_of_getElem? (i := 19) rfl))⟩), Exa.start e7 x7⟩
    | 8, _ => ⟨Sta.start e8 (Or.inr ⟨(hw _ (List.mem_of_getElem? (i := 3) rfl)), (hw _ (List.mem_of_getElem? (i := 21) rfl))⟩), Exa.start e8 x8⟩
    | i + 9, h => absurd h (by omega)
  have hO : ∀ i, i < 9 → s.fieldOf? ((own_w [a0, a1, a2, a3, a4, a5, a6, a7, a8]) i) "java/lang/Enum" "ordinal" "I" = some (.int (Int32.ofNat i)) := fun i hi => match i, hi with
    | 0, _ => own_ord e0 o0
    | 1, _ => own_ord e1 o1
    | 2, _ => own_ord e2 o2
    | 3, _ => own_ord e3 o3
    | 4, _ => own_ord e4 o4
    | 5, _ => own_ord e5 o5
    | 6, _ => own_ord e6 o6
    | 7, _ => own_ord e7 o7
    | 8, _ => own_ord e8 o8
    | i + 9, h => absurd h (by omega)
  generalize (own_w [a0, a1, a2, a3, a4, a5, a6, a7, a8]) = w at hS hO
  have hidx := own_idx i0 (9 : Int32) (by decide)
  have hlt : ((i0 &&& (2147483647 : Int32)) % (9 : Int32)).toNatClampNeg < 9 := own_lt (by decide) hidx
  have hback : ((i0 &&& (2147483647 : Int32)) % (9 : Int32)).toNatClampNeg.toInt32 = ((i0 &&& (2147483647 : Int32)) % (9 : Int32)) := (back32 hidx.1).1
  have hB : ∀ j, j < 9 → ∃ y : Int32, ([Value.int 0, Value.int 1, Value.int 0, Value.int 0, Value.int 1, Value.int 0, Value.int 0, Value.int 0, Value.int 0] : List Value).getD j (.int 0) = .int y ∧ y = if w j = w 1 ∨ w j = w 4 then (1 : Int32) else (0 : Int32) := fun j hj => by
    have q1 : w j = w 1 → j = 1 := fun q => own_inj (by decide) hO hj (by decide) q
    have q2 : w j = w 4 → j = 4 := fun q => own_inj (by decide) hO hj (by decide) q
    match j, hj with
    | 0, _ => exact ⟨0, rfl, (if_neg (fun q => q.elim (fun q => absurd (q1 q) (by decide)) (fun q => absurd (q2 q) (by decide)))).symm⟩
    | 1, _ => exact ⟨1, rfl, (if_pos (Or.inl rfl)).symm⟩
    | 2, _ => exact ⟨0, rfl, (if_neg (fun q => q.elim (fun q => absurd (q1 q) (by decide)) (fun q => absurd (q2 q) (by decide)))).symm⟩
    | 3, _ => exact ⟨0, rfl, (if_neg (fun q => q.elim (fun q => absurd (q1 q) (by decide)) (fun q => absurd (q2 q) (by decide)))).symm⟩
    | 4, _ => exact ⟨1, rfl, (if_pos (Or.inr rfl)).symm⟩
    | 5, _ => exact ⟨0, rfl, (if_neg (fun q => q.elim (fun q => absurd (q1 q) (by decide)) (fun q => absurd (q2 q) (by decide)))).symm⟩
    | 6, _ => exact ⟨0, rfl, (if_neg (fun q => q.elim (fun q => absurd (q1 q) (by decide)) (fun q => absurd (q2 q) (by decide)))).symm⟩
    | 7, _ => exact ⟨0, rfl, (if_neg (fun q => q.elim (fun q => absurd (q1 q) (by decide)) (fun q => absurd (q2 q) (by decide)))).symm⟩
    | 8, _ => exact ⟨0, rfl, (if_neg (fun q => q.elim (fun q => absurd (q1 q) (by decide)) (fun q => absurd (q2 q) (by decide)))).symm⟩
    | j + 9, h => exact absurd h (by omega)
  obtain ⟨y, hy1, hy2⟩ := hB _ hlt
  obtain ⟨n, o, h1, h2, h3, _, L, rfl, ⟨rfl, N⟩, hq⟩ := rm0_f l s _ hw tables_1 i0 w s.heap s.heap.size (Nat.le_refl _) (Old.start s) hS y hy1 hy2 p e ha hc hk s m _ below hf ((Spec.applies_iff_loose hf).mp happ).1 ⟨rfl, State.Warmed39.refl s, rfl⟩ trivial
  refine ⟨n, _, h1, h2, h3, hpost _ _ _ _ _ _ ⟨Cond.after_iff.mpr rfl, Cond.after_iff.mpr (eq_i res_at (Term.int_eval (1)) rfl), trivial⟩ ⟨hq.1, hq.2.1, (hq.2.2.sift fun y hy => Or.inr (N y hy)).mono (by decide) (by decide)⟩⟩
theorem main_1_1 : Claimed_1_1 := comes_1 fun _ _ _ _ _ _ h hF => ⟨h.1, hF⟩
theorem main_1_2 : Claimed_1_2 := comes_1 fun _ _ _ _ _ _ h hF => ⟨h.2.1, hF⟩
end Jvm.Pilot.@@N@@
namespace Jvm.Pilot.@@N@@
open Jvm Jvm.ClassFile Sem Op Lib Jvm.Free Jvm.Stand Jvm.Pilot.@@N@@.Jvm.D
/-! MADE BY PROGRAM (witnessworld.py) out of the Statement's table words and the real class files: 15 classes; the members and pool entries that the words name. The judged class is class 1, her method 1. -/
namespace start1
open Jvm.ClassFile
def u (s : String) : CpInfo := .utf8 (stringToUtf16 s)
/-- a pool by its gaps: so many unusable entries, then the entry; so many at the end -/
def gap : Nat → List CpInfo → List CpInfo
  | 0, r => r
  | n + 1, r => .unusable :: gap n r
def poolList (es : List (Nat × CpInfo)) (last : Nat) : List CpInfo := es.foldr (fun e r => gap e.1 (e.2 :: r)) (gap last [])
def pool (es : List (Nat × CpInfo)) (last : Nat) : Array CpInfo := ⟨poolList es last⟩
def fileOf (pool : Array CpInfo) (this : Nat) (attrs : Array Attribute := #[]) (ms : Array MethodInfo := #[]) (fl : Nat := 33) (sup : Nat := 0) (ifs : Array Nat := #[]) (fds : Array FieldInfo := #[]) : ClassFile where
  minorVersion := 0
  majorVersion := 65
  constantPool := pool
  accessFlags := fl
  thisClass := this
  superClass := sup
  interfaces := ifs
  fields := fds
  methods := ms
  attributes := attrs
def plain (name : String) (sup : Option ClassId) : Class where
  name := name
  kind := .ordinary
  loader := none
  accessFlags := 33
  super := sup
  interfaces := #[]
  cf := none
  fields := #[]
  methods := #[]
  instanceTypes := #[]
  staticTypes := #[]
  resolved := #[]
  callSites := []
  init := .initialized
  statics := none
  mirror := none

def pool0 : Array CpInfo := pool [(5, u "<init>"), (0, u "()V"), (1, .class_ 10), (1, u "java/lang/Object")] 113

def k0m0 : Method := { name := "<init>", desc := "()V", sig := { parameters := [], returnType := none }, accessFlags := 1, code := none }
/-- java/lang/Object -/
def k0 : Class := { plain "java/lang/Object" none with
  accessFlags := 33
  interfaces := #[]
  cf := some (fileOf pool0 8 #[] #[{ accessFlags := 1, nameIndex := 5, descriptorIndex := 6, attributes := #[] }] 33 0 #[] #[])
  fields := #[]
  methods := #[k0m0]
  instanceTypes := #[]
  staticTypes := #[]
  resolved := Array.replicate 124 none
  statics := none }

def pool1 : Array CpInfo := pool [(2, .class_ 4), (1, u "java/lang/Object"), (0, u "<init>"), (0, u "()V"), (0, .class_ 8), (0, u "com/example/metier/metier/report/Column"), (0, .fieldref 7 10), (0, .nameAndType 11 12), (0, u "FILE"), (0, u "Lcom/example/metier/metier/report/Column;"), (0, .fieldref 7 14), (0, .nameAndType 15 12), (0, u "RECORD"), (0, .fieldref 7 17), (0, .nameAndType 18 12), (0, u "ID"), (0, .fieldref 7 20), (0, .nameAndType 21 12), (0, u "TAG"), (0, .fieldref 7 23), (0, .nameAndType 24 12), (0, u "OCCURRENCE"), (0, .fieldref 7 26), (0, .nameAndType 27 12), (0, u "SEVERITY"), (0, .fieldref 7 29), (0, .nameAndType 30 12), (0, u "RULE"), (0, .fieldref 7 32), (0, .nameAndType 33 12), (0, u "DETAIL"), (0, .fieldref 7 35), (0, .nameAndType 36 12), (0, u "MESSAGE"), (0, .integer 2147483647), (0, .methodref 7 39), (0, .nameAndType 40 41), (0, u "numeric"), (0, u "()Z"), (0, .class_ 43), (0, u "com/example/metier/metier/report/ColumnNumericPinLaw"), (2, u "law"), (0, u "(I)Z")] 7

def k1m0 : Method := { name := "<init>", desc := "()V", sig := { parameters := [], returnType := none }, accessFlags := 2, code := none }
def k1c1 : Code := { maxStack := 4, maxLocals := 4, code := code, exceptionTable := #[], attributes := #[] }
def k1m1 : Method := { name := "law", desc := "(I)Z", sig := { parameters := [.int], returnType := some .boolean }, accessFlags := 9, code := some k1c1 }
/-- com/example/metier/metier/report/ColumnNumericPinLaw -/
def k1 : Class := { plain "com/example/metier/metier/report/ColumnNumericPinLaw" (some 0) with
  accessFlags := 49
  interfaces := #[]
  cf := some (fileOf pool1 42 #[] #[{ accessFlags := 2, nameIndex := 5, descriptorIndex := 6, attributes := #[] }, { accessFlags := 9, nameIndex := 46, descriptorIndex := 47, attributes := #[] }] 49 2 #[] #[])
  fields := #[]
  methods := #[k1m0, k1m1]
  instanceTypes := #[]
  staticTypes := #[]
  resolved := Array.replicate 55 none
  statics := none }

def pool2 : Array CpInfo := pool [(1, .class_ 2), (0, u "java/lang/constant/Constable"), (0, .class_ 4), (0, u "java/lang/Object")] 6

/-- java/lang/constant/Constable -/
def k2 : Class := { plain "java/lang/constant/Constable" (some 0) with
  accessFlags := 1537
  interfaces := #[]
  cf := some (fileOf pool2 1 #[] #[] 1537 3 #[] #[])
  fields := #[]
  methods := #[]
  instanceTypes := #[]
  staticTypes := #[]
  resolved := Array.replicate 11 none
  statics := none }

def pool3 : Array CpInfo := pool [(1, .class_ 2), (0, u "java/lang/Comparable"), (0, .class_ 4), (0, u "java/lang/Object")] 7

/-- java/lang/Comparable -/
def k3 : Class := { plain "java/lang/Comparable" (some 0) with
  accessFlags := 1537
  interfaces := #[]
  cf := some (fileOf pool3 1 #[] #[] 1537 3 #[] #[])
  fields := #[]
  methods := #[]
  instanceTypes := #[]
  staticTypes := #[]
  resolved := Array.replicate 12 none
  statics := none }

def pool4 : Array CpInfo := pool [(1, .class_ 2), (0, u "java/io/Serializable"), (0, .class_ 4), (0, u "java/lang/Object")] 2

/-- java/io/Serializable -/
def k4 : Class := { plain "java/io/Serializable" (some 0) with
  accessFlags := 1537
  interfaces := #[]
  cf := some (fileOf pool4 1 #[] #[] 1537 3 #[] #[])
  fields := #[]
  methods := #[]
  instanceTypes := #[]
  staticTypes := #[]
  resolved := Array.replicate 7 none
  statics := none }

def pool5 : Array CpInfo := pool [(2, .class_ 4), (1, u "java/lang/Enum"), (0, u "name"), (0, u "Ljava/lang/String;"), (2, u "ordinal"), (0, u "I"), (1, .class_ 14), (1, u "java/lang/Object"), (4, u "hash"), (86, .class_ 108), (1, u "java/lang/Enum$EnumDesc"), (2, .class_ 112), (0, u "java/lang/constant/Constable"), (0, .class_ 114), (0, u "java/lang/Comparable"), (0, .class_ 116), (0, u "java/io/Serializable")] 87

/-- java/lang/Enum -/
def k5 : Class := { plain "java/lang/Enum" (some 0) with
  accessFlags := 1057
  interfaces := #[2, 3, 4]
  cf := some (fileOf pool5 2 #[.nestMembers #[106]] #[] 1057 12 #[111, 113, 115] #[{ accessFlags := 18, nameIndex := 5, descriptorIndex := 6, attributes := #[] }, { accessFlags := 18, nameIndex := 9, descriptorIndex := 10, attributes := #[] }, { accessFlags := 2, nameIndex := 19, descriptorIndex := 10, attributes := #[] }])
  fields := #[{ name := "name", type := (.object "java/lang/String"), accessFlags := 18, slot := 0, constantValue := 0 }, { name := "ordinal", type := .int, accessFlags := 18, slot := 1, constantValue := 0 }, { name := "hash", type := .int, accessFlags := 2, slot := 2, constantValue := 0 }]
  methods := #[]
  instanceTypes := #[(.object "java/lang/String"), .int, .int]
  staticTypes := #[]
  resolved := Array.replicate 204 none
  statics := none }

def pool6 : Array CpInfo := pool [(1, .class_ 2), (0, u "com/example/metier/metier/report/Column"), (2, u "FILE"), (0, u "Lcom/example/metier/metier/report/Column;"), (0, .fieldref 1 8), (0, .nameAndType 9 6), (0, u "RECORD"), (2, u "ID"), (2, u "TAG"), (0, .fieldref 1 17), (0, .nameAndType 18 6), (0, u "OCCURRENCE"), (2, u "SEVERITY"), (2, u "RULE"), (2, u "DETAIL"), (2, u "MESSAGE"), (2, u "$VALUES"), (0, u "[Lcom/example/metier/metier/report/Column;"), (6, .class_ 43), (1, u "java/lang/Enum"), (115, u "numeric"), (0, u "()Z")] 26

def k6c0 : Code := { maxStack := 2, maxLocals := 1, code := prog_46_method_5_code, exceptionTable := #[], attributes := #[] }
def k6m0 : Method := { name := "numeric", desc := "()Z", sig := { parameters := [], returnType := some .boolean }, accessFlags := 0, code := some k6c0 }
/-- com/example/metier/metier/report/Column -/
def k6 : Class := { plain "com/example/metier/metier/report/Column" (some 5) with
  accessFlags := 16432
  interfaces := #[]
  cf := some (fileOf pool6 1 #[] #[{ accessFlags := 0, nameIndex := 159, descriptorIndex := 160, attributes := #[] }] 16432 41 #[] #[{ accessFlags := 16409, nameIndex := 5, descriptorIndex := 6, attributes := #[] }, { accessFlags := 16409, nameIndex := 9, descriptorIndex := 6, attributes := #[] }, { accessFlags := 16409, nameIndex := 12, descriptorIndex := 6, attributes := #[] }, { accessFlags := 16409, nameIndex := 15, descriptorIndex := 6, attributes := #[] }, { accessFlags := 16409, nameIndex := 18, descriptorIndex := 6, attributes := #[] }, { accessFlags := 16409, nameIndex := 21, descriptorIndex := 6, attributes := #[] }, { accessFlags := 16409, nameIndex := 24, descriptorIndex := 6, attributes := #[] }, { accessFlags := 16409, nameIndex := 27, descriptorIndex := 6, attributes := #[] }, { accessFlags := 16409, nameIndex := 30, descriptorIndex := 6, attributes := #[] }, { accessFlags := 4122, nameIndex := 33, descriptorIndex := 34, attributes := #[] }])
  fields := #[{ name := "FILE", type := (.object "com/example/metier/metier/report/Column"), accessFlags := 16409, slot := 0, constantValue := 0 }, { name := "RECORD", type := (.object "com/example/metier/metier/report/Column"), accessFlags := 16409, slot := 1, constantValue := 0 }, { name := "ID", type := (.object "com/example/metier/metier/report/Column"), accessFlags := 16409, slot := 2, constantValue := 0 }, { name := "TAG", type := (.object "com/example/metier/metier/report/Column"), accessFlags := 16409, slot := 3, constantValue := 0 }, { name := "OCCURRENCE", type := (.object "com/example/metier/metier/report/Column"), accessFlags := 16409, slot := 4, constantValue := 0 }, { name := "SEVERITY", type := (.object "com/example/metier/metier/report/Column"), accessFlags := 16409, slot := 5, constantValue := 0 }, { name := "RULE", type := (.object "com/example/metier/metier/report/Column"), accessFlags := 16409, slot := 6, constantValue := 0 }, { name := "DETAIL", type := (.object "com/example/metier/metier/report/Column"), accessFlags := 16409, slot := 7, constantValue := 0 }, { name := "MESSAGE", type := (.object "com/example/metier/metier/report/Column"), accessFlags := 16409, slot := 8, constantValue := 0 }, { name := "$VALUES", type := (.array (.object "com/example/metier/metier/report/Column")), accessFlags := 4122, slot := 9, constantValue := 0 }]
  methods := #[k6m0]
  instanceTypes := #[(.object "java/lang/String"), .int, .int]
  staticTypes := #[(.object "com/example/metier/metier/report/Column"), (.object "com/example/metier/metier/report/Column"), (.object "com/example/metier/metier/report/Column"), (.object "com/example/metier/metier/report/Column"), (.object "com/example/metier/metier/report/Column"), (.object "com/example/metier/metier/report/Column"), (.object "com/example/metier/metier/report/Column"), (.object "com/example/metier/metier/report/Column"), (.object "com/example/metier/metier/report/Column"), (.array (.object "com/example/metier/metier/report/Column"))]
  resolved := Array.replicate 187 none
  statics := some 0 }

def pool7 : Array CpInfo := pool [(1, u "java/lang/Cloneable"), (0, .class_ 1), (0, u "java/lang/Object"), (0, .class_ 3)] 3

/-- java/lang/Cloneable -/
def k7 : Class := { plain "java/lang/Cloneable" (some 0) with
  accessFlags := 1537
  interfaces := #[]
  cf := some (fileOf pool7 2 #[] #[] 1537 4 #[] #[])
  fields := #[]
  methods := #[]
  instanceTypes := #[]
  staticTypes := #[]
  resolved := Array.replicate 8 none
  statics := none }

/-- the primitive boolean -/
def k8 : Class := { plain "boolean" none with kind := .primitive 'Z', accessFlags := 0x411 }
/-- [Z -/
def k9 : Class := { plain "[Z" (some 0) with kind := .array 8 .boolean, interfaces := #[7, 4], accessFlags := 1041 }

/-- the primitive byte -/
def k10 : Class := { plain "byte" none with kind := .primitive 'B', accessFlags := 0x411 }
/-- [B -/
def k11 : Class := { plain "[B" (some 0) with kind := .array 10 .byte, interfaces := #[7, 4], accessFlags := 1041 }

/-- the primitive int -/
def k12 : Class := { plain "int" none with kind := .primitive 'I', accessFlags := 0x411 }
/-- [I -/
def k13 : Class := { plain "[I" (some 0) with kind := .array 12 .int, interfaces := #[7, 4], accessFlags := 1041 }

/-- [Lcom/example/metier/metier/report/Column; -/
def k14 : Class := { plain "[Lcom/example/metier/metier/report/Column;" (some 0) with kind := .array 6 (.object "com/example/metier/metier/report/Column"), interfaces := #[7, 4], accessFlags := 1041 }

def heap : Heap := #[{ cls := 6, slots := #[.ref 1, .ref 2, .ref 3, .ref 4, .ref 5, .ref 6, .ref 7, .ref 8, .ref 9, .null], vm := .statics 6 },
  { cls := 6, slots := #[.null, .int 0, .int 0], vm := .none },
  { cls := 6, slots := #[.null, .int 1, .int 0], vm := .none },
  { cls := 6, slots := #[.null, .int 2, .int 0], vm := .none },
  { cls := 6, slots := #[.null, .int 3, .int 0], vm := .none },
  { cls := 6, slots := #[.null, .int 4, .int 0], vm := .none },
  { cls := 6, slots := #[.null, .int 5, .int 0], vm := .none },
  { cls := 6, slots := #[.null, .int 6, .int 0], vm := .none },
  { cls := 6, slots := #[.null, .int 7, .int 0], vm := .none },
  { cls := 6, slots := #[.null, .int 8, .int 0], vm := .none }]
def classes : Array Class := #[k0, k1, k2, k3, k4, k5, k6, k7, k8, k9, k10, k11, k12, k13, k14]
def interned : List (Array UInt16 × Addr) := []
def slotsUsed : Nat := 37
def theMethod : MethodId := ⟨1, 1⟩
def args0 : Array Value := #[.int 5]
def aboutOver (below : List Frame) : State where
  vm := { classes := classes, interned := interned.toArray }
  heap := heap
  slotsUsed := slotsUsed
  threads := #[{ frames := .invoking theMethod args0 :: below }]
def below0 : List Frame := [.native { method := ⟨0, 0⟩, args := #[] }]
def about1 : State := aboutOver below0
def p0 : Program := .bare "" "" ""
def e0 : Env := launch0.env 0 0 0
theorem w_frames : about1.frames = Frame.invoking theMethod args0 :: below0 := rfl
set_option maxRecDepth 65536 in
theorem w_args : argsFit about1.vm theMethod args0 = true := by decide +kernel
set_option maxRecDepth 65536 in
theorem w_heap : heapFits about1 = true := by decide +kernel
set_option maxRecDepth 65536 in
theorem w_runnable : about1.curStatus? = some .runnable := by decide +kernel
set_option maxRecDepth 65536 in
theorem w_alone : about1.alone = true := by decide +kernel
set_option maxRecDepth 65536 in
theorem w_named : about1.methodNamed? x = some theMethod := by decide +kernel
set_option maxRecDepth 65536 in
theorem w_hears : about1.hears theMethod below0 = true := by decide +kernel
set_option maxRecDepth 65536 in
theorem w_ripe : about1.ripe theMethod args0 below0 = true := by decide +kernel
theorem w_running : about1.status = .running := rfl
set_option maxRecDepth 65536 in
theorem w_room : about1.hasRoom e0.platform room_1 = true :=
  launch0.hasRoom_least _ room_1 (by decide +kernel) (by decide +kernel) (by decide +kernel) (by decide +kernel) (by decide +kernel) (by decide +kernel)
theorem allAtoms_all (ts : List Jvm.Cond) (a : Array Jvm.Value) (st : Jvm.State) : (allAtoms ts).before a st = ts.all (fun c => c.before a st) := by
  induction ts with
  | nil => rfl
  | cons c t ih =>
    show (Jvm.Cond.and c (allAtoms t)).before a st = _
    rw [Jvm.Cond.before_and, ih, List.all_cons]
def words1 : List Jvm.Cond := Jvm.Cond.code x code maxLocals ret :: tables_1
/-- a 'code' word, met by the world's own term for the bytes: nothing is compared byte by byte -/
theorem code_word {y : MethodName} {bytes : ByteArray} {mx : Nat} {rt : Option FieldType} {a : Array Value} {s : State} {m : MethodId} {meth : Method} {c : Code} (h1 : s.methodNamed? y = some m) (h2 : s.vm.method? m = some meth) (h3 : meth.code = some c) (h4 : c.code = bytes)
    (h5 : (c.maxLocals == mx && c.exceptionTable.isEmpty && decide (c.maxStack ≤ mostOperands) && decide (meth.sig.returnType = rt) && !meth.locks && decide (parseMethodDescriptor y.desc = some meth.sig)) = true) : (Jvm.Cond.code y bytes mx rt).before a s = true := by
  simp only [Bool.and_eq_true, beq_iff_eq, Bool.not_eq_true', decide_eq_true_eq] at h5
  obtain ⟨⟨⟨⟨⟨g1, g2⟩, g3⟩, g4⟩, g5⟩, g6⟩ := h5
  simp [Cond.before, Cond.holds, Cond.value, h1, h2, h3, h4, g1, g2, g3, g4, g5, g6]
def isCode : Jvm.Cond → Bool
  | .code _ _ _ _ => true
  | _ => false
theorem all_split {L : List Jvm.Cond} {P : Jvm.Cond → Bool} (h1 : L.all (fun c => isCode c || P c) = true) (h2 : ∀ c ∈ L.filter isCode, P c = true) : L.all P = true := by
  refine List.all_eq_true.mpr fun c hc => ?_
  have h := List.all_eq_true.mp h1 c hc
  rcases Bool.eq_false_or_eq_true (isCode c) with hi | hi
  · exact h2 c (List.mem_filter.mpr ⟨hc, hi⟩)
  · simpa [hi] using h
set_option maxRecDepth 65536 in
theorem w_c0 : (Jvm.Cond.code x code maxLocals ret).before args0 about1 = true := code_word (m := ⟨1, 1⟩) (meth := k1m1) (c := k1c1) (by decide +kernel) rfl rfl rfl (by decide +kernel)
set_option maxRecDepth 65536 in
theorem w_c1 : (Jvm.Cond.code ({ cls := "com/example/metier/metier/report/Column", name := "numeric", desc := "()Z" } : Jvm.MethodName) prog_46_method_5_code (1 : Nat) (Option.some Jvm.ClassFile.FieldType.boolean)).before args0 about1 = true := code_word (m := ⟨6, 0⟩) (meth := k6m0) (c := k6c0) (by decide +kernel) rfl rfl rfl (by decide +kernel)
def codes1 : List Jvm.Cond := [Jvm.Cond.code x code maxLocals ret, Jvm.Cond.code ({ cls := "com/example/metier/metier/report/Column", name := "numeric", desc := "()Z" } : Jvm.MethodName) prog_46_method_5_code (1 : Nat) (Option.some Jvm.ClassFile.FieldType.boolean)]
set_option maxRecDepth 65536 in
theorem codes_eq : words1.filter isCode = codes1 := rfl
theorem w_codes : ∀ c ∈ words1.filter isCode, c.before args0 about1 = true := by
  rw [codes_eq]
  intro c hc
  simp only [codes1, List.mem_cons, List.not_mem_nil, or_false] at hc
  rcases hc with rfl | rfl
  · exact w_c0
  · exact w_c1
set_option maxRecDepth 65536 in
theorem w_t1 : (words1.take 24).all (fun c => isCode c || c.before args0 about1) = true := by decide +kernel
set_option maxRecDepth 65536 in
theorem w_t2 : (words1.drop 24).all (fun c => isCode c || c.before args0 about1) = true := by decide +kernel
theorem w_tables : (allAtoms (Jvm.Cond.code x code maxLocals ret :: tables_1)).before args0 about1 = true := by
  rw [allAtoms_all]
  show words1.all (fun c => c.before args0 about1) = true
  refine all_split ?_ w_codes
  rw [← List.take_append_drop 24 words1, List.all_append, w_t1, w_t2]
  rfl
set_option maxRecDepth 65536 in
theorem w_case : (Jvm.Cond.and given_1 narrow_1).before args0 about1 = true := by decide +kernel
theorem w_applies : (headSpec (Jvm.Cond.code x code maxLocals ret :: tables_1) room_1).applies x e0.platform about1 = true :=
  (Spec.applies_iff w_frames).mpr ⟨w_running, w_runnable, w_alone, w_named, w_hears, w_ripe, w_room, w_tables⟩
theorem atStart : AtStart classFile x code maxLocals ret World_1 tables_1 room_1 Calls_1 rest_1 Pre_1 launch0 p0 e0 about1 theMethod args0 below0 :=
  ⟨lists_1, trivial, launch0.admits_env _ _ _, launch0.least_env, fairChoices_fair.cas, fairChoices_fair.clock, w_frames, w_args, w_heap, w_applies, trivial, trivial, w_case⟩
end start1
theorem witness_1 : WitnessClaimed_1 := ⟨start1.p0, start1.e0, start1.about1, start1.theMethod, start1.args0, start1.below0, start1.atStart⟩
end Jvm.Pilot.@@N@@
