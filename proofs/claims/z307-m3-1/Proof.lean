import JvmDerived
import JvmDerived.Pilot.@@N@@Statement
import JvmDerived.Pilot.@@N@@Code
set_option linter.unusedVariables false
set_option linter.unusedSimpArgs false
namespace Jvm.RoadKit
open Sem ClassFile Op Lib Jvm.Stand Jvm.Free Jvm.LawKit
section New
variable {p : Program} {l : Launch} {e : Env} {R : Room} {s : State} {m : MethodId} {args : Array Value} {below : List Frame} {meth : Method} {c : Code} {T : State} {locs : List Loc} {cells slots : Nat}
theorem retI (X : Stand p l e R s m args below meth c T locs cells slots) (hx : p.tables.exec = Jvm.exec) {pc : Nat} {Ls : Array Slot} {z : Int32} {rest : List Value} (hret : meth.sig.returnType = some .int) (hd : decode c.code pc = .ok (.ireturn, 1)) {fs : List Frame}
    (hl : ∀ (f : JFrame) (acts : List Action), f.method = m → f.locked = none → f.entered = [] → (doReturn e (T.setTop f) acts (some (.int z))).1 = T.setFrames fs) : Steps p.tables e below (T.setTop (mkF m pc Ls (.int z :: rest))) (T.setFrames fs) := by
  have hm' : T.vm.method? m = some meth := X.method'
  have hn : narrow .int (.int z) = .int z := rfl
  show Steps p.tables e below (T.setTop { method := m, pc := pc, locals := Ls, stack := _ :: rest, locked := none }) _
  jvm_step X.here [X.here.top, hx, hd, hm', hret, hn]
  first | (intro acts; rw [hl _ acts rfl rfl rfl]) | rw [hl _ _ rfl rfl rfl]
  exact Steps.refl _
end New
end Jvm.RoadKit
namespace Jvm.Pilot.@@N@@
open Jvm Jvm.ClassFile Sem Op Lib Jvm.Free Jvm.Stand Jvm.LawKit Jvm.RoadKit Bundle Jvm.Pilot.@@N@@.Jvm.D
theorem own_val {args : Array Value} {s : State} {t : Term} {k : Int32} (h : (Cond.eq t (.int k)).value args s none s [] = some true) : t.eval args s none [] s = some (.int k) := by
  obtain ⟨u, w, e1, e2, k1, k2⟩ := cmp_v (Or.inl h)
  have ew : w = .int k := (Option.some.inj ((Term.int_eval k).symm.trans e2)).symm
  subst ew
  obtain ⟨z, rfl⟩ := k2
  have q : z = k := by simpa [Cond.value, e1, e2] using h
  rw [e1, q]
theorem own_ord {args : Array Value} {s : State} {t : Term} {C n d : String} {a : Addr} {k : Int32} (ev : t.eval args s none [] s = some (.ref a)) (h : (Cond.eq (.field t C n d) (.int k)).value args s none s [] = some true) : s.fieldOf? a C n d = some (.int k) := by
  rw [← fld_at (o := none) (args := args) (first := s) (idx := []) ev]; exact own_val h
theorem own_ne {s : State} {C n d : String} {a b : Addr} {k j : Int32} (h1 : s.fieldOf? a C n d = some (.int k)) (h2 : s.fieldOf? b C n d = some (.int j)) (hk : k ≠ j) : ¬ (a = b) := fun e => by
  subst e; exact hk (Value.int.inj (Option.some.inj (h1.symm.trans h2)))
theorem own_keep {h0 h : Heap} {ws : List Addr} (e : h = h0) : Keep h0 h ws := by subst e; exact Keep.refl _ _
theorem own_nm {a : Addr} : a ∉ ([] : List Addr) := fun q => nomatch q
theorem own_nm1 {a b : Addr} (q : ¬ (a = b)) : a ∉ [b] := fun z => q (List.mem_singleton.mp z)
theorem own_ge1 {b : Addr} {n : Nat} (q : n ≤ b) : ∀ x ∈ [b], n ≤ x := fun x hx => by cases List.mem_singleton.mp hx; exact q
theorem own_ge0 {n : Nat} : ∀ x ∈ ([] : List Addr), n ≤ x := fun x hx => nomatch hx
section OwnFill
variable {p : Program} {l : Launch} {e : Env} {R : Room} {s : State} {m : MethodId} {args : Array Value} {below : List Frame} {meth : Method} {c : Code} {T : State} {locs : List Loc} {cells slots : Nat} {Z : State} {a0 : Array Value} {h : Heap}
/-- one place of an array of objects: dup, the place, getstatic, aastore -/
theorem own_fill (X : Stand p l e R s m args below meth c T locs cells slots) (hx : p.tables.exec = Jvm.exec) (hZ : Z.Warmed39 s.vm) {own C nm d : String} {index : Nat} (hown : s.vm.findClass own = some m.cls) (wl : (Jvm.Cond.fieldLink own index C nm d).before a0 Z = true)
    (eT : T.heap = h) {n0 : Nat} (O : Old Z n0 h) (N : Fr n0 locs) {b : Addr} {k : ClassId} {z : Int32} {w : Nat → Addr} {i : Nat} (A : Arv Z h b k (.object C) z ((List.range i).map fun q => Value.ref (w q)) .null) (Ov : Ovr Z k C) (gb : n0 ≤ b)
    (S : Sta Z Z.heap C nm d (.ref (w i))) (E : Exa Z Z.heap (w i) C) {pc q : Nat} {Ls : Array Slot} {j : Int32} {jj : Int} (hj0 : ¬ j < 0) (hj : j.toNatClampNeg = i) (hlt : i < z.toNatClampNeg)
    (d1 : decode c.code pc = .ok (.dup, 1)) (d2 : (decode c.code (pc + 1) = .ok (.iconst jj, 1) ∧ Int32.ofInt jj = j ∧ q = pc + 2) ∨ (decode c.code (pc + 1) = .ok (.bipush jj, 2) ∧ (Int8.ofInt jj).toInt32 = j ∧ q = pc + 3))
    (d3 : decode c.code q = .ok (.getstatic index, 3)) (d4 : decode c.code (q + 3) = .ok (.aastore, 1)) :
    ∃ T' h' locs', Stand p l e R s m args below meth c T' locs' cells slots ∧ T'.heap = h' ∧ Old Z n0 h' ∧ Fr n0 locs' ∧ Arv Z h' b k (.object C) z ((List.range (i + 1)).map fun q => Value.ref (w q)) .null ∧ Keep h h' [b] ∧
      ∀ target, Steps p.tables e below (T'.setTop (mkF m (q + 4) Ls [.ref b])) target → Steps p.tables e below (T.setTop (mkF m pc Ls [.ref b])) target := by
  obtain ⟨cl, Ar, q1, S1, q3, H, G⟩ := A.pad (pad_rep _ Value.null 1)
  have hin : ¬ (j < 0 ∨ cl.slots.size ≤ j.toNatClampNeg) := by
    rw [S1, hj]; exact fun y => y.elim hj0 (fun y => Nat.lt_irrefl _ (Nat.lt_of_lt_of_le hlt y))
  obtain ⟨T1, X1, e1, st1⟩ := getS2 X hx hZ hown (host := "") (Or.inl wl) Via.refl eT (S.ext O.2) (g := mkF m q Ls [.int j, .ref b, .ref b]) rfl d3
  obtain ⟨T2, h2, X2, e2, W2, st2⟩ := stR X1 hx hZ e1 Ar (j := j) hin rfl (Sto.ofV Ar q1 Ov (Ins.self (E.ext O.2))) (g := mkF m (q + 3) Ls [.ref (w i), .int j, .ref b, .ref b]) rfl rfl d4
  have A2 := Arv.set Ar q1 S1 q3 H G (v := .ref (w i)) rfl W2 i hj (by simp)
  have eq : ((((List.range i).map fun q => Value.ref (w q)) ++ List.replicate 1 Value.null).set i (.ref (w i))) = (List.range (i + 1)).map fun q => Value.ref (w q) := by
    rw [List.range_succ, List.map_append]; simp [List.set_append]
  rw [eq] at A2
  refine ⟨T2, h2, _, X2, e2, O.wr W2 gb, Fr.snoc X2 N gb, A2, Keep.of_wr W2, fun target ht => ?_⟩
  refine XS.dup X.here hx rfl d1 rfl rfl ?_
  show Steps p.tables e below (T.setTop (mkF m (pc + 1) Ls [.ref b, .ref b])) _
  rcases d2 with ⟨d2, ej, rfl⟩ | ⟨d2, ej, rfl⟩
  · refine XS.iconst X.here hx rfl d2 ?_
    rw [ej]
    exact st1 _ (st2 _ ht)
  · refine XS.bipush X.here hx rfl d2 ?_
    rw [ej]
    exact st1 _ (st2 _ ht)
/-- one place of an array of booleans: dup, the place, the value, bastore -/
theorem own_fillZ (X : Stand p l e R s m args below meth c T locs cells slots) (hx : p.tables.exec = Jvm.exec) (hZ : Z.Warmed39 s.vm)
    (eT : T.heap = h) {n0 : Nat} (O : Old Z n0 h) (N : Fr n0 locs) {b : Addr} {k : ClassId} {z : Int32} {vs : List Value} (A : Arv Z h b k .boolean z vs (.int 0)) (gb : n0 ≤ b)
    {pc q : Nat} {Ls : Array Slot} {j y : Int32} {jj yy : Int} (hj0 : ¬ j < 0) (hj : j.toNatClampNeg = vs.length) (hlt : vs.length < z.toNatClampNeg) (hy : nar .boolean (Int32.ofInt yy) = y)
    (d1 : decode c.code pc = .ok (.dup, 1)) (d2 : (decode c.code (pc + 1) = .ok (.iconst jj, 1) ∧ Int32.ofInt jj = j ∧ q = pc + 2) ∨ (decode c.code (pc + 1) = .ok (.bipush jj, 2) ∧ (Int8.ofInt jj).toInt32 = j ∧ q = pc + 3))
    (d3 : decode c.code q = .ok (.iconst yy, 1)) (d4 : decode c.code (q + 1) = .ok (.bastore, 1)) :
    ∃ T' h' locs', Stand p l e R s m args below meth c T' locs' cells slots ∧ T'.heap = h' ∧ Old Z n0 h' ∧ Fr n0 locs' ∧ Arv Z h' b k .boolean z (vs ++ [.int y]) (.int 0) ∧ Keep h h' [b] ∧
      ∀ target, Steps p.tables e below (T'.setTop (mkF m (q + 2) Ls [.ref b])) target → Steps p.tables e below (T.setTop (mkF m pc Ls [.ref b])) target := by
  obtain ⟨cl, Ar, q1, S1, q3, H, G⟩ := A.pad (pad_rep _ (Value.int 0) 1)
  have hin : ¬ (j < 0 ∨ cl.slots.size ≤ j.toNatClampNeg) := by
    rw [S1, hj]; exact fun y => y.elim hj0 (fun y => Nat.lt_irrefl _ (Nat.lt_of_lt_of_le hlt y))
  obtain ⟨T2, h2, X2, e2, W2, st2⟩ := stZ X hx hZ eT Ar (j := j) (x := Int32.ofInt yy) hin (g := mkF m (q + 1) Ls [.int (Int32.ofInt yy), .int j, .ref b, .ref b]) rfl rfl d4
  have A2 := Arv.set Ar q1 S1 q3 H G (v := .int (nar .boolean (Int32.ofInt yy))) (fits_nar_bool _) W2 vs.length hj (by simp)
  have eq : ((vs ++ List.replicate 1 (Value.int 0)).set vs.length (.int (nar .boolean (Int32.ofInt yy)))) = vs ++ [.int y] := by
    rw [hy]; simp [List.set_append]
  rw [eq] at A2
  refine ⟨T2, h2, _, X2, e2, O.wr W2 gb, Fr.snoc X2 N gb, A2, Keep.of_wr W2, fun target ht => ?_⟩
  refine XS.dup X.here hx rfl d1 rfl rfl ?_
  show Steps p.tables e below (T.setTop (mkF m (pc + 1) Ls [.ref b, .ref b])) _
  rcases d2 with ⟨d2, ej, rfl⟩ | ⟨d2, ej, rfl⟩
  · refine XS.iconst X.here hx rfl d2 ?_
    rw [ej]
    exact XS.iconst X.here hx rfl d3 (st2 _ ht)
  · refine XS.bipush X.here hx rfl d2 ?_
    rw [ej]
    exact XS.iconst X.here hx rfl d3 (st2 _ ht)
end OwnFill
/-- the place that (x & max) % n names: inside -/
theorem own_idx (x n : Int32) (hn : 0 < n.toInt) : ¬ ((x &&& (2147483647 : Int32)) % n < 0) ∧ (x &&& (2147483647 : Int32)) % n < n := by
  have h1 := c_and x (2147483647 : Int32) (by decide)
  have h2 := (c_iremV (x &&& (2147483647 : Int32)) n).1 h1.1 hn
  have e0 : (0 : Int32).toInt = 0 := rfl
  simp only [Int32.lt_iff_toInt_lt, e0]
  omega
theorem own_cases {i n : Nat} (h : i < n) : i ∈ List.range n := List.mem_range.mpr h
theorem d1_0 : decode prog_61_method_8_code 0 = .ok (.aload_n 0, 1) := by decide +kernel
theorem d1_1 : decode prog_61_method_8_code 1 = .ok (.getstatic 100, 3) := by decide +kernel
theorem d1_4 : decode prog_61_method_8_code 4 = .ok (.if_acmp .eq 14, 3) := by decide +kernel
theorem d1_18 : decode prog_61_method_8_code 18 = .ok (.iconst 0, 1) := by decide +kernel
theorem d1_19 : decode prog_61_method_8_code 19 = .ok (.ireturn, 1) := by decide +kernel
theorem pn_1 : plainName "com/example/solvent/solvent/vm/Opcode" = true := by first | (simp [plainName, overriddenIn]; done) | decide +kernel
theorem ef_1 (m : MethodId) (x0 : Addr) : entryFrame m #[(.ref x0)] 1 = mkF m 0 #[.val (.ref x0)] [] := by first | (simp [entryFrame, mkF, argsToLocals, Value.category]; done) | rfl
def Q1_t (Z : State) (a1 : Addr) (w2 : Addr) (h0 : Heap) (n0 : Nat) (v : Option Value) (h : Heap) (L : List Loc) : Prop := v = some (.int (0 : Int32)) ∧ Fr n0 L ∧ h = h0
set_option maxRecDepth 65536 in
set_option maxHeartbeats 40000000 in
theorem rm1_t (l : Launch) (Z : State) (a0 : Array Value) (hw : ∀ d ∈ tables_1, d.before a0 Z = true) (ws : List Jvm.Cond) (a1 : Addr) (w2 : Addr) (h0 : Heap) (n0 : Nat) (Z0 : n0 ≤ h0.size) (S_JUMP : Sta Z h0 "com/example/solvent/solvent/vm/Opcode" "JUMP" "Lcom/example/solvent/solvent/vm/Opcode;" (.ref w2)) (ha4 : a1 = w2) :
    MetFree l (⟨"com/example/solvent/solvent/vm/Opcode", "continues", "()Z"⟩ : MethodName) (head1 (Jvm.Cond.code (⟨"com/example/solvent/solvent/vm/Opcode", "continues", "()Z"⟩ : MethodName) prog_61_method_8_code 1 (some .boolean) :: ws) ({ frames := 0, cells := 0, slots := 0, locals := 0 } : Room)) (fun a U => a = #[(.ref a1)] ∧ Z.Warmed39 U.vm ∧ U.heap = h0) (fun _ _ _ _ _ => True) (fun _ U o U' => ∃ v L, o = .returned v ∧ Q1_t Z a1 w2 h0 n0 v U'.heap L ∧ FrameEnd U o U' L ({ frames := 0, cells := 0, slots := 0, locals := 0 } : Room).cells ({ frames := 0, cells := 0, slots := 0, locals := 0 } : Room).slots) := by
  refine MetFree.of_bodySF (plainFor_of_name pn_1) hisR ?_
  intro p e s m args below meth c s₁ Bd hml0 hP hK
  obtain ⟨rfl, hZ, hh⟩ := hP
  have hx := Bd.exec
  have hby := Bd.bytes
  have hml : c.maxLocals = 1 := hml0
  have hown : s.vm.findClass "com/example/solvent/solvent/vm/Opcode" = some m.cls := findClass_of_methodNamed Bd.named
  have hnm := (name_of_methodNamed Bd.named Bd.method).1
  have X0 : Stand p l e ({ frames := 0, cells := 0, slots := 0, locals := 0 } : Room) s m #[(.ref a1)] below meth c s₁ [] 0 0 := Stand.of_body Bd
  have e0 : s₁.heap = h0 := by rw [← hh, Bd.state]; rfl
  have N0 := Fr.nil n0
  have pre0 : ∀ t, Steps p.tables e below (s₁.setTop (mkF m 0 #[.val (.ref a1)] [])) t → Steps p.tables e below (s₁.setTop (entryFrame m #[(.ref a1)] 1)) t := fun t k => castTop (ef_1 m a1) k
  obtain ⟨T3, X3, e3, st3⟩ := getS2 X0 hx hZ hown (host := "") (Or.inl (hw _ (List.mem_of_getElem? (i := 82) rfl))) Via.refl e0 S_JUMP (g := (mkF m 1 #[.val (.ref a1)] [(.ref a1)])) rfl (hb hby d1_1)
  obtain ⟨fs, hr, hrun, hended, hW, hsame⟩ := X3.leave (v := some (.int (0 : Int32))) (fun h => by rw [Bd.returns] at h; cases h)
  refine ⟨_, _, pre0 _ ?_, hrun, hended, _, _, rfl, ?_, ⟨_, rfl⟩, hW, hsame.mono (by decide) (by decide)⟩
  · show Steps p.tables e below (s₁.setTop (mkF m 0 #[.val (.ref a1)] [])) _
    refine XS.aloadN X0.here hx rfl (hb hby d1_0) rfl rfl ?_
    show Steps p.tables e below (s₁.setTop (mkF m 1 #[.val (.ref a1)] [(.ref a1)])) _
    refine st3 _ ?_
    show Steps p.tables e below (T3.setTop (mkF m 4 #[.val (.ref a1)] [(.ref w2), (.ref a1)])) _
    refine Jvm.RoadKit.acmp (g := (mkF m 4 #[.val (.ref a1)] [(.ref w2), (.ref a1)])) X3 hx rfl rfl rfl (pc0 := 4) (pc' := 18) (same := true) rfl (hb hby d1_4) rfl (decide_eq_true (congrArg Value.ref ha4)) (by decide) (by decide) ?_
    show Steps p.tables e below (T3.setTop (mkF m 18 #[.val (.ref a1)] [])) _
    refine XS.iconst X3.here hx rfl (hb hby d1_18) ?_
    show Steps p.tables e below (T3.setTop (mkF m 19 #[.val (.ref a1)] [(.int (0 : Int32))])) _
    exact retN X3 hx (t := .boolean) Bd.returns (by simp) (hb hby d1_19) hr
  · show Q1_t Z a1 w2 h0 n0 _ T3.heap _
    rw [e3]
    exact ⟨rfl, N0, rfl⟩
theorem d1_7 : decode prog_61_method_8_code 7 = .ok (.aload_n 0, 1) := by decide +kernel
theorem d1_8 : decode prog_61_method_8_code 8 = .ok (.getstatic 109, 3) := by decide +kernel
theorem d1_11 : decode prog_61_method_8_code 11 = .ok (.if_acmp .eq 7, 3) := by decide +kernel
theorem d1_14 : decode prog_61_method_8_code 14 = .ok (.iconst 1, 1) := by decide +kernel
theorem d1_15 : decode prog_61_method_8_code 15 = .ok (.goto 4, 3) := by decide +kernel
def Q1_ff (Z : State) (a1 : Addr) (w2 : Addr) (w4 : Addr) (h0 : Heap) (n0 : Nat) (v : Option Value) (h : Heap) (L : List Loc) : Prop := v = some (.int (1 : Int32)) ∧ Fr n0 L ∧ h = h0
set_option maxRecDepth 65536 in
set_option maxHeartbeats 40000000 in
theorem rm1_ff (l : Launch) (Z : State) (a0 : Array Value) (hw : ∀ d ∈ tables_1, d.before a0 Z = true) (ws : List Jvm.Cond) (a1 : Addr) (w2 : Addr) (w4 : Addr) (h0 : Heap) (n0 : Nat) (Z0 : n0 ≤ h0.size) (S_JUMP : Sta Z h0 "com/example/solvent/solvent/vm/Opcode" "JUMP" "Lcom/example/solvent/solvent/vm/Opcode;" (.ref w2)) (S_RETURN : Sta Z h0 "com/example/solvent/solvent/vm/Opcode" "RETURN" "Lcom/example/solvent/solvent/vm/Opcode;" (.ref w4)) (ha4 : ¬ (a1 = w2)) (ha11 : ¬ (a1 = w4)) :
    MetFree l (⟨"com/example/solvent/solvent/vm/Opcode", "continues", "()Z"⟩ : MethodName) (head1 (Jvm.Cond.code (⟨"com/example/solvent/solvent/vm/Opcode", "continues", "()Z"⟩ : MethodName) prog_61_method_8_code 1 (some .boolean) :: ws) ({ frames := 0, cells := 0, slots := 0, locals := 0 } : Room)) (fun a U => a = #[(.ref a1)] ∧ Z.Warmed39 U.vm ∧ U.heap = h0) (fun _ _ _ _ _ => True) (fun _ U o U' => ∃ v L, o = .returned v ∧ Q1_ff Z a1 w2 w4 h0 n0 v U'.heap L ∧ FrameEnd U o U' L ({ frames := 0, cells := 0, slots := 0, locals := 0 } : Room).cells ({ frames := 0, cells := 0, slots := 0, locals := 0 } : Room).slots) := by
  refine MetFree.of_bodySF (plainFor_of_name pn_1) hisR ?_
  intro p e s m args below meth c s₁ Bd hml0 hP hK
  obtain ⟨rfl, hZ, hh⟩ := hP
  have hx := Bd.exec
  have hby := Bd.bytes
  have hml : c.maxLocals = 1 := hml0
  have hown : s.vm.findClass "com/example/solvent/solvent/vm/Opcode" = some m.cls := findClass_of_methodNamed Bd.named
  have hnm := (name_of_methodNamed Bd.named Bd.method).1
  have X0 : Stand p l e ({ frames := 0, cells := 0, slots := 0, locals := 0 } : Room) s m #[(.ref a1)] below meth c s₁ [] 0 0 := Stand.of_body Bd
  have e0 : s₁.heap = h0 := by rw [← hh, Bd.state]; rfl
  have N0 := Fr.nil n0
  have pre0 : ∀ t, Steps p.tables e below (s₁.setTop (mkF m 0 #[.val (.ref a1)] [])) t → Steps p.tables e below (s₁.setTop (entryFrame m #[(.ref a1)] 1)) t := fun t k => castTop (ef_1 m a1) k
  obtain ⟨T3, X3, e3, st3⟩ := getS2 X0 hx hZ hown (host := "") (Or.inl (hw _ (List.mem_of_getElem? (i := 82) rfl))) Via.refl e0 S_JUMP (g := (mkF m 1 #[.val (.ref a1)] [(.ref a1)])) rfl (hb hby d1_1)
  obtain ⟨T5, X5, e5, st5⟩ := getS2 X3 hx hZ hown (host := "") (Or.inl (hw _ (List.mem_of_getElem? (i := 83) rfl))) Via.refl e3 S_RETURN (g := (mkF m 8 #[.val (.ref a1)] [(.ref a1)])) rfl (hb hby d1_8)
  obtain ⟨fs, hr, hrun, hended, hW, hsame⟩ := X5.leave (v := some (.int (1 : Int32))) (fun h => by rw [Bd.returns] at h; cases h)
  refine ⟨_, _, pre0 _ ?_, hrun, hended, _, _, rfl, ?_, ⟨_, rfl⟩, hW, hsame.mono (by decide) (by decide)⟩
  · show Steps p.tables e below (s₁.setTop (mkF m 0 #[.val (.ref a1)] [])) _
    refine XS.aloadN X0.here hx rfl (hb hby d1_0) rfl rfl ?_
    show Steps p.tables e below (s₁.setTop (mkF m 1 #[.val (.ref a1)] [(.ref a1)])) _
    refine st3 _ ?_
    show Steps p.tables e below (T3.setTop (mkF m 4 #[.val (.ref a1)] [(.ref w2), (.ref a1)])) _
    refine Jvm.RoadKit.acmp (g := (mkF m 4 #[.val (.ref a1)] [(.ref w2), (.ref a1)])) X3 hx rfl rfl rfl (pc0 := 4) (pc' := 7) (same := false) rfl (hb hby d1_4) rfl (decide_eq_false fun q => ha4 (Value.ref.inj q)) (by decide) (by decide) ?_
    show Steps p.tables e below (T3.setTop (mkF m 7 #[.val (.ref a1)] [])) _
    refine XS.aloadN X3.here hx rfl (hb hby d1_7) rfl rfl ?_
    show Steps p.tables e below (T3.setTop (mkF m 8 #[.val (.ref a1)] [(.ref a1)])) _
    refine st5 _ ?_
    show Steps p.tables e below (T5.setTop (mkF m 11 #[.val (.ref a1)] [(.ref w4), (.ref a1)])) _
    refine Jvm.RoadKit.acmp (g := (mkF m 11 #[.val (.ref a1)] [(.ref w4), (.ref a1)])) X5 hx rfl rfl rfl (pc0 := 11) (pc' := 14) (same := false) rfl (hb hby d1_11) rfl (decide_eq_false fun q => ha11 (Value.ref.inj q)) (by decide) (by decide) ?_
    show Steps p.tables e below (T5.setTop (mkF m 14 #[.val (.ref a1)] [])) _
    refine XS.iconst X5.here hx rfl (hb hby d1_14) ?_
    show Steps p.tables e below (T5.setTop (mkF m 15 #[.val (.ref a1)] [(.int (1 : Int32))])) _
    refine XS.goto X5.here hx rfl (pc0 := 15) (pc' := 19) rfl (hb hby d1_15) (by decide) (by decide) ?_
    show Steps p.tables e below (T5.setTop (mkF m 19 #[.val (.ref a1)] [(.int (1 : Int32))])) _
    exact retN X5 hx (t := .boolean) Bd.returns (by simp) (hb hby d1_19) hr
  · show Q1_ff Z a1 w2 w4 h0 n0 _ T5.heap _
    rw [e5]
    exact ⟨rfl, N0, rfl⟩
def Q1_ft (Z : State) (a1 : Addr) (w2 : Addr) (w4 : Addr) (h0 : Heap) (n0 : Nat) (v : Option Value) (h : Heap) (L : List Loc) : Prop := v = some (.int (0 : Int32)) ∧ Fr n0 L ∧ h = h0
set_option maxRecDepth 65536 in
set_option maxHeartbeats 40000000 in
theorem rm1_ft (l : Launch) (Z : State) (a0 : Array Value) (hw : ∀ d ∈ tables_1, d.before a0 Z = true) (ws : List Jvm.Cond) (a1 : Addr) (w2 : Addr) (w4 : Addr) (h0 : Heap) (n0 : Nat) (Z0 : n0 ≤ h0.size) (S_JUMP : Sta Z h0 "com/example/solvent/solvent/vm/Opcode" "JUMP" "Lcom/example/solvent/solvent/vm/Opcode;" (.ref w2)) (S_RETURN : Sta Z h0 "com/example/solvent/solvent/vm/Opcode" "RETURN" "Lcom/example/solvent/solvent/vm/Opcode;" (.ref w4)) (ha4 : ¬ (a1 = w2)) (ha11 : a1 = w4) :
    MetFree l (⟨"com/example/solvent/solvent/vm/Opcode", "continues", "()Z"⟩ : MethodName) (head1 (Jvm.Cond.code (⟨"com/example/solvent/solvent/vm/Opcode", "continues", "()Z"⟩ : MethodName) prog_61_method_8_code 1 (some .boolean) :: ws) ({ frames := 0, cells := 0, slots := 0, locals := 0 } : Room)) (fun a U => a = #[(.ref a1)] ∧ Z.Warmed39 U.vm ∧ U.heap = h0) (fun _ _ _ _ _ => True) (fun _ U o U' => ∃ v L, o = .returned v ∧ Q1_ft Z a1 w2 w4 h0 n0 v U'.heap L ∧ FrameEnd U o U' L ({ frames := 0, cells := 0, slots := 0, locals := 0 } : Room).cells ({ frames := 0, cells := 0, slots := 0, locals := 0 } : Room).slots) := by
  refine MetFree.of_bodySF (plainFor_of_name pn_1) hisR ?_
  intro p e s m args below meth c s₁ Bd hml0 hP hK
  obtain ⟨rfl, hZ, hh⟩ := hP
  have hx := Bd.exec
  have hby := Bd.bytes
  have hml : c.maxLocals = 1 := hml0
  have hown : s.vm.findClass "com/example/solvent/solvent/vm/Opcode" = some m.cls := findClass_of_methodNamed Bd.named
  have hnm := (name_of_methodNamed Bd.named Bd.method).1
  have X0 : Stand p l e ({ frames := 0, cells := 0, slots := 0, locals := 0 } : Room) s m #[(.ref a1)] below meth c s₁ [] 0 0 := Stand.of_body Bd
  have e0 : s₁.heap = h0 := by rw [← hh, Bd.state]; rfl
  have N0 := Fr.nil n0
  have pre0 : ∀ t, Steps p.tables e below (s₁.setTop (mkF m 0 #[.val (.ref a1)] [])) t → Steps p.tables e below (s₁.setTop (entryFrame m #[(.ref a1)] 1)) t := fun t k => castTop (ef_1 m a1) k
  obtain ⟨T3, X3, e3, st3⟩ := getS2 X0 hx hZ hown (host := "") (Or.inl (hw _ (List.mem_of_getElem? (i := 82) rfl))) Via.refl e0 S_JUMP (g := (mkF m 1 #[.val (.ref a1)] [(.ref a1)])) rfl (hb hby d1_1)
  obtain ⟨T5, X5, e5, st5⟩ := getS2 X3 hx hZ hown (host := "") (Or.inl (hw _ (List.mem_of_getElem? (i := 83) rfl))) Via.refl e3 S_RETURN (g := (mkF m 8 #[.val (.ref a1)] [(.ref a1)])) rfl (hb hby d1_8)
  obtain ⟨fs, hr, hrun, hended, hW, hsame⟩ := X5.leave (v := some (.int (0 : Int32))) (fun h => by rw [Bd.returns] at h; cases h)
  refine ⟨_, _, pre0 _ ?_, hrun, hended, _, _, rfl, ?_, ⟨_, rfl⟩, hW, hsame.mono (by decide) (by decide)⟩
  · show Steps p.tables e below (s₁.setTop (mkF m 0 #[.val (.ref a1)] [])) _
    refine XS.aloadN X0.here hx rfl (hb hby d1_0) rfl rfl ?_
    show Steps p.tables e below (s₁.setTop (mkF m 1 #[.val (.ref a1)] [(.ref a1)])) _
    refine st3 _ ?_
    show Steps p.tables e below (T3.setTop (mkF m 4 #[.val (.ref a1)] [(.ref w2), (.ref a1)])) _
    refine Jvm.RoadKit.acmp (g := (mkF m 4 #[.val (.ref a1)] [(.ref w2), (.ref a1)])) X3 hx rfl rfl rfl (pc0 := 4) (pc' := 7) (same := false) rfl (hb hby d1_4) rfl (decide_eq_false fun q => ha4 (Value.ref.inj q)) (by decide) (by decide) ?_
    show Steps p.tables e below (T3.setTop (mkF m 7 #[.val (.ref a1)] [])) _
    refine XS.aloadN X3.here hx rfl (hb hby d1_7) rfl rfl ?_
    show Steps p.tables e below (T3.setTop (mkF m 8 #[.val (.ref a1)] [(.ref a1)])) _
    refine st5 _ ?_
    show Steps p.tables e below (T5.setTop (mkF m 11 #[.val (.ref a1)] [(.ref w4), (.ref a1)])) _
    refine Jvm.RoadKit.acmp (g := (mkF m 11 #[.val (.ref a1)] [(.ref w4), (.ref a1)])) X5 hx rfl rfl rfl (pc0 := 11) (pc' := 18) (same := true) rfl (hb hby d1_11) rfl (decide_eq_true (congrArg Value.ref ha11)) (by decide) (by decide) ?_
    show Steps p.tables e below (T5.setTop (mkF m 18 #[.val (.ref a1)] [])) _
    refine XS.iconst X5.here hx rfl (hb hby d1_18) ?_
    show Steps p.tables e below (T5.setTop (mkF m 19 #[.val (.ref a1)] [(.int (0 : Int32))])) _
    exact retN X5 hx (t := .boolean) Bd.returns (by simp) (hb hby d1_19) hr
  · show Q1_ft Z a1 w2 w4 h0 n0 _ T5.heap _
    rw [e5]
    exact ⟨rfl, N0, rfl⟩
def Qc (r : Int32) (h0 : Heap) (n0 : Nat) (v : Option Value) (h : Heap) (L : List Loc) : Prop := v = some (.int r) ∧ Fr n0 L ∧ h = h0
theorem own_c (l : Launch) (Z : State) (a0 : Array Value) (hw : ∀ d ∈ tables_1, d.before a0 Z = true) (ws : List Jvm.Cond) (a1 : Addr) (w2 : Addr) (w4 : Addr) (h0 : Heap) (n0 : Nat) (Z0 : n0 ≤ h0.size) (S_JUMP : Sta Z h0 "com/example/solvent/solvent/vm/Opcode" "JUMP" "Lcom/example/solvent/solvent/vm/Opcode;" (.ref w2)) (S_RETURN : Sta Z h0 "com/example/solvent/solvent/vm/Opcode" "RETURN" "Lcom/example/solvent/solvent/vm/Opcode;" (.ref w4)) (r : Int32) (hr : r = if a1 = w2 ∨ a1 = w4 then (0 : Int32) else (1 : Int32)) :
    MetFree l (⟨"com/example/solvent/solvent/vm/Opcode", "continues", "()Z"⟩ : MethodName) (head1 (Jvm.Cond.code (⟨"com/example/solvent/solvent/vm/Opcode", "continues", "()Z"⟩ : MethodName) prog_61_method_8_code 1 (some .boolean) :: ws) ({ frames := 0, cells := 0, slots := 0, locals := 0 } : Room)) (fun a U => a = #[(.ref a1)] ∧ Z.Warmed39 U.vm ∧ U.heap = h0) (fun _ _ _ _ _ => True) (fun _ U o U' => ∃ v L, o = .returned v ∧ Qc r h0 n0 v U'.heap L ∧ FrameEnd U o U' L ({ frames := 0, cells := 0, slots := 0, locals := 0 } : Room).cells ({ frames := 0, cells := 0, slots := 0, locals := 0 } : Room).slots) := by
  by_cases q1 : a1 = w2
  · rw [if_pos (Or.inl q1)] at hr
    subst hr
    exact rm1_t l Z a0 hw ws a1 w2 h0 n0 Z0 S_JUMP q1
  · by_cases q2 : a1 = w4
    · rw [if_pos (Or.inr q2)] at hr
      subst hr
      exact rm1_ft l Z a0 hw ws a1 w2 w4 h0 n0 Z0 S_JUMP S_RETURN q1 q2
    · rw [if_neg (fun q => q.elim q1 q2)] at hr
      subst hr
      exact rm1_ff l Z a0 hw ws a1 w2 w4 h0 n0 Z0 S_JUMP S_RETURN q1 q2
def own_names : List String := ["PUSH", "LOAD_GLOBAL", "STORE_GLOBAL", "LOAD_LOCAL", "STORE_LOCAL", "REF_GLOBAL", "REF_LOCAL", "LOAD_REF", "STORE_REF", "TAKE_GLOBAL", "TAKE_LOCAL", "POP", "NEGATE", "ADD", "SUBTRACT", "MULTIPLY", "DIVIDE", "LESS", "LESS_EQUAL", "GREATER", "GREATER_EQUAL", "EQUAL", "NOT_EQUAL", "NOT", "AND", "OR", "PRINT", "PRINT_BOOL", "ADD_AMOUNT", "CHECK_AMOUNT", "TRANSFER", "WALLET", "JUMP", "JUMP_IF_FALSE", "CALL", "RETURN"]
abbrev own_S (Z : State) (w : Nat → Addr) : Prop := ∀ i, i < 36 → Sta Z Z.heap "com/example/solvent/solvent/vm/Opcode" (own_names.getD i "") "Lcom/example/solvent/solvent/vm/Opcode;" (.ref (w i)) ∧ Exa Z Z.heap (w i) "com/example/solvent/solvent/vm/Opcode"
def own_w (L : List Addr) (k : Nat) : Addr := L.getD k 0
theorem own_get (w : Nat → Addr) {j n : Nat} (h : j < n) : ((List.range n).map fun q => Value.ref (w q)).getD j .null = .ref (w j) := by
  simp [List.getD_eq_getElem?_getD, h]
theorem own_inj {s : State} {w : Nat → Addr} {C n d : String} {N : Nat} (hN : N ≤ 2 ^ 31) (h : ∀ i, i < N → s.fieldOf? (w i) C n d = some (.int (Int32.ofNat i))) {i j : Nat} (hi : i < N) (hj : j < N) (e : w i = w j) : i = j := by
  have q := (h i hi).symm.trans ((congrArg (fun a => s.fieldOf? a C n d) e).trans (h j hj))
  have q2 : (Int32.ofNat i).toInt = (Int32.ofNat j).toInt := congrArg Int32.toInt (Value.int.inj (Option.some.inj q))
  have e1 : (Int32.ofNat i).toInt = i := len_toInt (Nat.lt_of_lt_of_le hi hN)
  have e2 : (Int32.ofNat j).toInt = j := len_toInt (Nat.lt_of_lt_of_le hj hN)
  omega
theorem own_lt {j z : Int32} {n : Nat} (hz : z.toNatClampNeg = n) (q : ¬ j < 0 ∧ j < z) : j.toNatClampNeg < n := by
  subst hz
  obtain ⟨q1, q2⟩ := q
  have e0 : (0 : Int32).toInt = 0 := rfl
  simp only [Int32.lt_iff_toInt_lt, Int32.toNatClampNeg, e0] at *; omega
set_option maxRecDepth 65536 in
set_option maxHeartbeats 40000000 in
theorem own_pre {p : Program} {l : Launch} {e : Env} {s : State} {m : MethodId} {args : Array Value} {below : List Frame} {meth : Method} {c : Code} {T0 : State} {Z : State} {a0 : Array Value} {h0 : Heap} (hw : ∀ d ∈ tables_1, d.before a0 Z = true)
    (X0 : Stand p l e room_1 s m args below meth c T0 [] 0 0) (hx : p.tables.exec = Jvm.exec) (hby : c.code = code) (hZ : Z.Warmed39 s.vm) (hown : s.vm.findClass "com/example/solvent/solvent/vm/OpcodeContinuesPinLaw" = some m.cls) (e0 : T0.heap = h0) {n0 : Nat} (O0 : Old Z n0 h0) (Z0 : n0 ≤ h0.size) (w : Nat → Addr) (hS : own_S Z w) (Ls : Array Slot) :
    ∃ T h b k locs, Stand p l e room_1 s m args below meth c T locs 1 36 ∧ T.heap = h ∧ Old Z n0 h ∧ Fr n0 locs ∧ n0 ≤ b ∧ Arv Z h b k (.object "com/example/solvent/solvent/vm/Opcode") (36 : Int32) ((List.range 36).map fun q => Value.ref (w q)) .null ∧
      ∀ target, Steps p.tables e below (T.setTop (mkF m 251 Ls [.ref b])) target → Steps p.tables e below (T0.setTop (mkF m 0 Ls [])) target := by
  obtain ⟨T1, h1, k1, X1, e1, E1, A1, Ov, st1⟩ := newR X0 hx hZ hown (hw _ (List.mem_of_getElem? (i := 0) rfl)) (hw _ (List.mem_of_getElem? (i := 1) rfl)) e0 (g := (mkF m 2 Ls [(.int (36 : Int32))])) rfl (hb hby at_2) rfl (by decide) (cap := 36) (by decide) (by decide) (by decide) (by decide)
  obtain ⟨b, g1⟩ : ∃ z, z = h0.size := ⟨_, rfl⟩
  rw [← g1] at A1 st1
  have gb : n0 ≤ b := Nat.le_trans Z0 (Nat.le_of_eq g1.symm)
  have V0 : Arv Z h1 b k1 (.object "com/example/solvent/solvent/vm/Opcode") (36 : Int32) ((List.range 0).map fun q => Value.ref (w q)) .null := Arv.new A1 (by decide)
  have O1 := O0.ext E1
  have N1 := Fr.nil n0
  obtain ⟨TF0, hF0, lF0, XF0, eF0, OF0, NF0, VF0, -, stF0⟩ := own_fill X1 hx hZ hown (hw _ (List.mem_of_getElem? (i := 2) rfl)) e1 O1 N1 V0 Ov gb (hS 0 (by decide)).1 (hS 0 (by decide)).2 (i := 0) (pc := 5) (q := 7) (Ls := Ls) (j := (0 : Int32)) (jj := 0) (by decide) (by decide) (by decide) (hb hby at_5) (Or.inl ⟨hb hby at_6, by decide, rfl⟩) (hb hby at_7) (hb hby at_10)
  obtain ⟨TF1, hF1, lF1, XF1, eF1, OF1, NF1, VF1, -, stF1⟩ := own_fill XF0 hx hZ hown (hw _ (List.mem_of_getElem? (i := 6) rfl)) eF0 OF0 NF0 VF0 Ov gb (hS 1 (by decide)).1 (hS 1 (by decide)).2 (i := 1) (pc := 11) (q := 13) (Ls := Ls) (j := (1 : Int32)) (jj := 1) (by decide) (by decide) (by decide) (hb hby at_11) (Or.inl ⟨hb hby at_12, by decide, rfl⟩) (hb hby at_13) (hb hby at_16)
  obtain ⟨TF2, hF2, lF2, XF2, eF2, OF2, NF2, VF2, -, stF2⟩ := own_fill XF1 hx hZ hown (hw _ (List.mem_of_getElem? (i := 8) rfl)) eF1 OF1 NF1 VF1 Ov gb (hS 2 (by decide)).1 (hS 2 (by decide)).2 (i := 2) (pc := 17) (q := 19) (Ls := Ls) (j := (2 : Int32)) (jj := 2) (by decide) (by decide) (by decide) (hb hby at_17) (Or.inl ⟨hb hby at_18, by decide, rfl⟩) (hb hby at_19) (hb hby at_22)
  obtain ⟨TF3, hF3, lF3, XF3, eF3, OF3, NF3, VF3, -, stF3⟩ := own_fill XF2 hx hZ hown (hw _ (List.mem_of_getElem? (i := 10) rfl)) eF2 OF2 NF2 VF2 Ov gb (hS 3 (by decide)).1 (hS 3 (by decide)).2 (i := 3) (pc := 23) (q := 25) (Ls := Ls) (j := (3 : Int32)) (jj := 3) (by decide) (by decide) (by decide) (hb hby at_23) (Or.inl ⟨hb hby at_24, by decide, rfl⟩) (hb hby at_25) (hb hby at_28)
  obtain ⟨TF4, hF4, lF4, XF4, eF4, OF4, NF4, VF4, -, stF4⟩ := own_fill XF3 hx hZ hown (hw _ (List.mem_of_getElem? (i := 12) rfl)) eF3 OF3 NF3 VF3 Ov gb (hS 4 (by decide)).1 (hS 4 (by decide)).2 (i := 4) (pc := 29) (q := 31) (Ls := Ls) (j := (4 : Int32)) (jj := 4) (by decide) (by decide) (by decide) (hb hby at_29) (Or.inl ⟨hb hby at_30, by decide, rfl⟩) (hb hby at_31) (hb hby at_34)
  obtain ⟨TF5, hF5, lF5, XF5, eF5, OF5, NF5, VF5, -, stF5⟩ := own_fill XF4 hx hZ hown (hw _ (List.mem_of_getElem? (i := 14) rfl)) eF4 OF4 NF4 VF4 Ov gb (hS 5 (by decide)).1 (hS 5 (by decide)).2 (i := 5) (pc := 35) (q := 37) (Ls := Ls) (j := (5 : Int32)) (jj := 5) (by decide) (by decide) (by decide) (hb hby at_35) (Or.inl ⟨hb hby at_36, by decide, rfl⟩) (hb hby at_37) (hb hby at_40)
  obtain ⟨TF6, hF6, lF6, XF6, eF6, OF6, NF6, VF6, -, stF6⟩ := own_fill XF5 hx hZ hown (hw _ (List.mem_of_getElem? (i := 16) rfl)) eF5 OF5 NF5 VF5 Ov gb (hS 6 (by decide)).1 (hS 6 (by decide)).2 (i := 6) (pc := 41) (q := 44) (Ls := Ls) (j := (6 : Int32)) (jj := 6) (by decide) (by decide) (by decide) (hb hby at_41) (Or.inr ⟨hb hby at_42, by decide, rfl⟩) (hb hby at_44) (hb hby at_47)
  obtain ⟨TF7, hF7, lF7, XF7, eF7, OF7, NF7, VF7, -, stF7⟩ := own_fill XF6 hx hZ hown (hw _ (List.mem_of_getElem? (i := 18) rfl)) eF6 OF6 NF6 VF6 Ov gb (hS 7 (by decide)).1 (hS 7 (by decide)).2 (i := 7) (pc := 48) (q := 51) (Ls := Ls) (j := (7 : Int32)) (jj := 7) (by decide) (by decide) (by decide) (hb hby at_48) (Or.inr ⟨hb hby at_49, by decide, rfl⟩) (hb hby at_51) (hb hby at_54)
  obtain ⟨TF8, hF8, lF8, XF8, eF8, OF8, NF8, VF8, -, stF8⟩ := own_fill XF7 hx hZ hown (hw _ (List.mem_of_getElem? (i := 20) rfl)) eF7 OF7 NF7 VF7 Ov gb (hS 8 (by decide)).1 (hS 8 (by decide)).2 (i := 8) (pc := 55) (q := 58) (Ls := Ls) (j := (8 : Int32)) (jj := 8) (by decide) (by decide) (by decide) (hb hby at_55) (Or.inr ⟨hb hby at_56, by decide, rfl⟩) (hb hby at_58) (hb hby at_61)
  obtain ⟨TF9, hF9, lF9, XF9, eF9, OF9, NF9, VF9, -, stF9⟩ := own_fill XF8 hx hZ hown (hw _ (List.mem_of_getElem? (i := 22) rfl)) eF8 OF8 NF8 VF8 Ov gb (hS 9 (by decide)).1 (hS 9 (by decide)).2 (i := 9) (pc := 62) (q := 65) (Ls := Ls) (j := (9 : Int32)) (jj := 9) (by decide) (by decide) (by decide) (hb hby at_62) (Or.inr ⟨hb hby at_63, by decide, rfl⟩) (hb hby at_65) (hb hby at_68)
  obtain ⟨TF10, hF10, lF10, XF10, eF10, OF10, NF10, VF10, -, stF10⟩ := own_fill XF9 hx hZ hown (hw _ (List.mem_of_getElem? (i := 24) rfl)) eF9 OF9 NF9 VF9 Ov gb (hS 10 (by decide)).1 (hS 10 (by decide)).2 (i := 10) (pc := 69) (q := 72) (Ls := Ls) (j := (10 : Int32)) (jj := 10) (by decide) (by decide) (by decide) (hb hby at_69) (Or.inr ⟨hb hby at_70, by decide, rfl⟩) (hb hby at_72) (hb hby at_75)
  obtain ⟨TF11, hF11, lF11, XF11, eF11, OF11, NF11, VF11, -, stF11⟩ := own_fill XF10 hx hZ hown (hw _ (List.mem_of_getElem? (i := 26) rfl)) eF10 OF10 NF10 VF10 Ov gb (hS 11 (by decide)).1 (hS 11 (by decide)).2 (i := 11) (pc := 76) (q := 79) (Ls := Ls) (j := (11 : Int32)) (jj := 11) (by decide) (by decide) (by decide) (hb hby at_76) (Or.inr ⟨hb hby at_77, by decide, rfl⟩) (hb hby at_79) (hb hby at_82)
  obtain ⟨TF12, hF12, lF12, XF12, eF12, OF12, NF12, VF12, -, stF12⟩ := own_fill XF11 hx hZ hown (hw _ (List.mem_of_getElem? (i := 28) rfl)) eF11 OF11 NF11 VF11 Ov gb (hS 12 (by decide)).1 (hS 12 (by decide)).2 (i := 12) (pc := 83) (q := 86) (Ls := Ls) (j := (12 : Int32)) (jj := 12) (by decide) (by decide) (by decide) (hb hby at_83) (Or.inr ⟨hb hby at_84, by decide, rfl⟩) (hb hby at_86) (hb hby at_89)
  obtain ⟨TF13, hF13, lF13, XF13, eF13, OF13, NF13, VF13, -, stF13⟩ := own_fill XF12 hx hZ hown (hw _ (List.mem_of_getElem? (i := 30) rfl)) eF12 OF12 NF12 VF12 Ov gb (hS 13 (by decide)).1 (hS 13 (by decide)).2 (i := 13) (pc := 90) (q := 93) (Ls := Ls) (j := (13 : Int32)) (jj := 13) (by decide) (by decide) (by decide) (hb hby at_90) (Or.inr ⟨hb hby at_91, by decide, rfl⟩) (hb hby at_93) (hb hby at_96)
  obtain ⟨TF14, hF14, lF14, XF14, eF14, OF14, NF14, VF14, -, stF14⟩ := own_fill XF13 hx hZ hown (hw _ (List.mem_of_getElem? (i := 32) rfl)) eF13 OF13 NF13 VF13 Ov gb (hS 14 (by decide)).1 (hS 14 (by decide)).2 (i := 14) (pc := 97) (q := 100) (Ls := Ls) (j := (14 : Int32)) (jj := 14) (by decide) (by decide) (by decide) (hb hby at_97) (Or.inr ⟨hb hby at_98, by decide, rfl⟩) (hb hby at_100) (hb hby at_103)
  obtain ⟨TF15, hF15, lF15, XF15, eF15, OF15, NF15, VF15, -, stF15⟩ := own_fill XF14 hx hZ hown (hw _ (List.mem_of_getElem? (i := 34) rfl)) eF14 OF14 NF14 VF14 Ov gb (hS 15 (by decide)).1 (hS 15 (by decide)).2 (i := 15) (pc := 104) (q := 107) (Ls := Ls) (j := (15 : Int32)) (jj := 15) (by decide) (by decide) (by decide) (hb hby at_104) (Or.inr ⟨hb hby at_105, by decide, rfl⟩) (hb hby at_107) (hb hby at_110)
  obtain ⟨TF16, hF16, lF16, XF16, eF16, OF16, NF16, VF16, -, stF16⟩ := own_fill XF15 hx hZ hown (hw _ (List.mem_of_getElem? (i := 36) rfl)) eF15 OF15 NF15 VF15 Ov gb (hS 16 (by decide)).1 (hS 16 (by decide)).2 (i := 16) (pc := 111) (q := 114) (Ls := Ls) (j := (16 : Int32)) (jj := 16) (by decide) (by decide) (by decide) (hb hby at_111) (Or.inr ⟨hb hby at_112, by decide, rfl⟩) (hb hby at_114) (hb hby at_117)
  obtain ⟨TF17, hF17, lF17, XF17, eF17, OF17, NF17, VF17, -, stF17⟩ := own_fill XF16 hx hZ hown (hw _ (List.mem_of_getElem? (i := 38) rfl)) eF16 OF16 NF16 VF16 Ov gb (hS 17 (by decide)).1 (hS 17 (by decide)).2 (i := 17) (pc := 118) (q := 121) (Ls := Ls) (j := (17 : Int32)) (jj := 17) (by decide) (by decide) (by decide) (hb hby at_118) (Or.inr ⟨hb hby at_119, by decide, rfl⟩) (hb hby at_121) (hb hby at_124)
  obtain ⟨TF18, hF18, lF18, XF18, eF18, OF18, NF18, VF18, -, stF18⟩ := own_fill XF17 hx hZ hown (hw _ (List.mem_of_getElem? (i := 40) rfl)) eF17 OF17 NF17 VF17 Ov gb (hS 18 (by decide)).1 (hS 18 (by decide)).2 (i := 18) (pc := 125) (q := 128) (Ls := Ls) (j := (18 : Int32)) (jj := 18) (by decide) (by decide) (by decide) (hb hby at_125) (Or.inr ⟨hb hby at_126, by decide, rfl⟩) (hb hby at_128) (hb hby at_131)
  obtain ⟨TF19, hF19, lF19, XF19, eF19, OF19, NF19, VF19, -, stF19⟩ := own_fill XF18 hx hZ hown (hw _ (List.mem_of_getElem? (i := 42) rfl)) eF18 OF18 NF18 VF18 Ov gb (hS 19 (by decide)).1 (hS 19 (by decide)).2 (i := 19) (pc := 132) (q := 135) (Ls := Ls) (j := (19 : Int32)) (jj := 19) (by decide) (by decide) (by decide) (hb hby at_132) (Or.inr ⟨hb hby at_133, by decide, rfl⟩) (hb hby at_135) (hb hby at_138)
  obtain ⟨TF20, hF20, lF20, XF20, eF20, OF20, NF20, VF20, -, stF20⟩ := own_fill XF19 hx hZ hown (hw _ (List.mem_of_getElem? (i := 44) rfl)) eF19 OF19 NF19 VF19 Ov gb (hS 20 (by decide)).1 (hS 20 (by decide)).2 (i := 20) (pc := 139) (q := 142) (Ls := Ls) (j := (20 : Int32)) (jj := 20) (by decide) (by decide) (by decide) (hb hby at_139) (Or.inr ⟨hb hby at_140, by decide, rfl⟩) (hb hby at_142) (hb hby at_145)
  obtain ⟨TF21, hF21, lF21, XF21, eF21, OF21, NF21, VF21, -, stF21⟩ := own_fill XF20 hx hZ hown (hw _ (List.mem_of_getElem? (i := 46) rfl)) eF20 OF20 NF20 VF20 Ov gb (hS 21 (by decide)).1 (hS 21 (by decide)).2 (i := 21) (pc := 146) (q := 149) (Ls := Ls) (j := (21 : Int32)) (jj := 21) (by decide) (by decide) (by decide) (hb hby at_146) (Or.inr ⟨hb hby at_147, by decide, rfl⟩) (hb hby at_149) (hb hby at_152)
  obtain ⟨TF22, hF22, lF22, XF22, eF22, OF22, NF22, VF22, -, stF22⟩ := own_fill XF21 hx hZ hown (hw _ (List.mem_of_getElem? (i := 48) rfl)) eF21 OF21 NF21 VF21 Ov gb (hS 22 (by decide)).1 (hS 22 (by decide)).2 (i := 22) (pc := 153) (q := 156) (Ls := Ls) (j := (22 : Int32)) (jj := 22) (by decide) (by decide) (by decide) (hb hby at_153) (Or.inr ⟨hb hby at_154, by decide, rfl⟩) (hb hby at_156) (hb hby at_159)
  obtain ⟨TF23, hF23, lF23, XF23, eF23, OF23, NF23, VF23, -, stF23⟩ := own_fill XF22 hx hZ hown (hw _ (List.mem_of_getElem? (i := 50) rfl)) eF22 OF22 NF22 VF22 Ov gb (hS 23 (by decide)).1 (hS 23 (by decide)).2 (i := 23) (pc := 160) (q := 163) (Ls := Ls) (j := (23 : Int32)) (jj := 23) (by decide) (by decide) (by decide) (hb hby at_160) (Or.inr ⟨hb hby at_161, by decide, rfl⟩) (hb hby at_163) (hb hby at_166)
  obtain ⟨TF24, hF24, lF24, XF24, eF24, OF24, NF24, VF24, -, stF24⟩ := own_fill XF23 hx hZ hown (hw _ (List.mem_of_getElem? (i := 52) rfl)) eF23 OF23 NF23 VF23 Ov gb (hS 24 (by decide)).1 (hS 24 (by decide)).2 (i := 24) (pc := 167) (q := 170) (Ls := Ls) (j := (24 : Int32)) (jj := 24) (by decide) (by decide) (by decide) (hb hby at_167) (Or.inr ⟨hb hby at_168, by decide, rfl⟩) (hb hby at_170) (hb hby at_173)
  obtain ⟨TF25, hF25, lF25, XF25, eF25, OF25, NF25, VF25, -, stF25⟩ := own_fill XF24 hx hZ hown (hw _ (List.mem_of_getElem? (i := 54) rfl)) eF24 OF24 NF24 VF24 Ov gb (hS 25 (by decide)).1 (hS 25 (by decide)).2 (i := 25) (pc := 174) (q := 177) (Ls := Ls) (j := (25 : Int32)) (jj := 25) (by decide) (by decide) (by decide) (hb hby at_174) (Or.inr ⟨hb hby at_175, by decide, rfl⟩) (hb hby at_177) (hb hby at_180)
  obtain ⟨TF26, hF26, lF26, XF26, eF26, OF26, NF26, VF26, -, stF26⟩ := own_fill XF25 hx hZ hown (hw _ (List.mem_of_getElem? (i := 56) rfl)) eF25 OF25 NF25 VF25 Ov gb (hS 26 (by decide)).1 (hS 26 (by decide)).2 (i := 26) (pc := 181) (q := 184) (Ls := Ls) (j := (26 : Int32)) (jj := 26) (by decide) (by decide) (by decide) (hb hby at_181) (Or.inr ⟨hb hby at_182, by decide, rfl⟩) (hb hby at_184) (hb hby at_187)
  obtain ⟨TF27, hF27, lF27, XF27, eF27, OF27, NF27, VF27, -, stF27⟩ := own_fill XF26 hx hZ hown (hw _ (List.mem_of_getElem? (i := 58) rfl)) eF26 OF26 NF26 VF26 Ov gb (hS 27 (by decide)).1 (hS 27 (by decide)).2 (i := 27) (pc := 188) (q := 191) (Ls := Ls) (j := (27 : Int32)) (jj := 27) (by decide) (by decide) (by decide) (hb hby at_188) (Or.inr ⟨hb hby at_189, by decide, rfl⟩) (hb hby at_191) (hb hby at_194)
  obtain ⟨TF28, hF28, lF28, XF28, eF28, OF28, NF28, VF28, -, stF28⟩ := own_fill XF27 hx hZ hown (hw _ (List.mem_of_getElem? (i := 60) rfl)) eF27 OF27 NF27 VF27 Ov gb (hS 28 (by decide)).1 (hS 28 (by decide)).2 (i := 28) (pc := 195) (q := 198) (Ls := Ls) (j := (28 : Int32)) (jj := 28) (by decide) (by decide) (by decide) (hb hby at_195) (Or.inr ⟨hb hby at_196, by decide, rfl⟩) (hb hby at_198) (hb hby at_201)
  obtain ⟨TF29, hF29, lF29, XF29, eF29, OF29, NF29, VF29, -, stF29⟩ := own_fill XF28 hx hZ hown (hw _ (List.mem_of_getElem? (i := 62) rfl)) eF28 OF28 NF28 VF28 Ov gb (hS 29 (by decide)).1 (hS 29 (by decide)).2 (i := 29) (pc := 202) (q := 205) (Ls := Ls) (j := (29 : Int32)) (jj := 29) (by decide) (by decide) (by decide) (hb hby at_202) (Or.inr ⟨hb hby at_203, by decide, rfl⟩) (hb hby at_205) (hb hby at_208)
  obtain ⟨TF30, hF30, lF30, XF30, eF30, OF30, NF30, VF30, -, stF30⟩ := own_fill XF29 hx hZ hown (hw _ (List.mem_of_getElem? (i := 64) rfl)) eF29 OF29 NF29 VF29 Ov gb (hS 30 (by decide)).1 (hS 30 (by decide)).2 (i := 30) (pc := 209) (q := 212) (Ls := Ls) (j := (30 : Int32)) (jj := 30) (by decide) (by decide) (by decide) (hb hby at_209) (Or.inr ⟨hb hby at_210, by decide, rfl⟩) (hb hby at_212) (hb hby at_215)
  obtain ⟨TF31, hF31, lF31, XF31, eF31, OF31, NF31, VF31, -, stF31⟩ := own_fill XF30 hx hZ hown (hw _ (List.mem_of_getElem? (i := 66) rfl)) eF30 OF30 NF30 VF30 Ov gb (hS 31 (by decide)).1 (hS 31 (by decide)).2 (i := 31) (pc := 216) (q := 219) (Ls := Ls) (j := (31 : Int32)) (jj := 31) (by decide) (by decide) (by decide) (hb hby at_216) (Or.inr ⟨hb hby at_217, by decide, rfl⟩) (hb hby at_219) (hb hby at_222)
  obtain ⟨TF32, hF32, lF32, XF32, eF32, OF32, NF32, VF32, -, stF32⟩ := own_fill XF31 hx hZ hown (hw _ (List.mem_of_getElem? (i := 68) rfl)) eF31 OF31 NF31 VF31 Ov gb (hS 32 (by decide)).1 (hS 32 (by decide)).2 (i := 32) (pc := 223) (q := 226) (Ls := Ls) (j := (32 : Int32)) (jj := 32) (by decide) (by decide) (by decide) (hb hby at_223) (Or.inr ⟨hb hby at_224, by decide, rfl⟩) (hb hby at_226) (hb hby at_229)
  obtain ⟨TF33, hF33, lF33, XF33, eF33, OF33, NF33, VF33, -, stF33⟩ := own_fill XF32 hx hZ hown (hw _ (List.mem_of_getElem? (i := 70) rfl)) eF32 OF32 NF32 VF32 Ov gb (hS 33 (by decide)).1 (hS 33 (by decide)).2 (i := 33) (pc := 230) (q := 233) (Ls := Ls) (j := (33 : Int32)) (jj := 33) (by decide) (by decide) (by decide) (hb hby at_230) (Or.inr ⟨hb hby at_231, by decide, rfl⟩) (hb hby at_233) (hb hby at_236)
  obtain ⟨TF34, hF34, lF34, XF34, eF34, OF34, NF34, VF34, -, stF34⟩ := own_fill XF33 hx hZ hown (hw _ (List.mem_of_getElem? (i := 72) rfl)) eF33 OF33 NF33 VF33 Ov gb (hS 34 (by decide)).1 (hS 34 (by decide)).2 (i := 34) (pc := 237) (q := 240) (Ls := Ls) (j := (34 : Int32)) (jj := 34) (by decide) (by decide) (by decide) (hb hby at_237) (Or.inr ⟨hb hby at_238, by decide, rfl⟩) (hb hby at_240) (hb hby at_243)
  obtain ⟨TF35, hF35, lF35, XF35, eF35, OF35, NF35, VF35, -, stF35⟩ := own_fill XF34 hx hZ hown (hw _ (List.mem_of_getElem? (i := 74) rfl)) eF34 OF34 NF34 VF34 Ov gb (hS 35 (by decide)).1 (hS 35 (by decide)).2 (i := 35) (pc := 244) (q := 247) (Ls := Ls) (j := (35 : Int32)) (jj := 35) (by decide) (by decide) (by decide) (hb hby at_244) (Or.inr ⟨hb hby at_245, by decide, rfl⟩) (hb hby at_247) (hb hby at_250)
  refine ⟨TF35, hF35, b, k1, lF35, XF35, eF35, OF35, NF35, gb, VF35, fun target ht => ?_⟩
  refine XS.bipush X0.here hx rfl (hb hby at_0) ?_
  refine st1 _ ?_
  refine stF0 _ ?_
  refine stF1 _ ?_
  refine stF2 _ ?_
  refine stF3 _ ?_
  refine stF4 _ ?_
  refine stF5 _ ?_
  refine stF6 _ ?_
  refine stF7 _ ?_
  refine stF8 _ ?_
  refine stF9 _ ?_
  refine stF10 _ ?_
  refine stF11 _ ?_
  refine stF12 _ ?_
  refine stF13 _ ?_
  refine stF14 _ ?_
  refine stF15 _ ?_
  refine stF16 _ ?_
  refine stF17 _ ?_
  refine stF18 _ ?_
  refine stF19 _ ?_
  refine stF20 _ ?_
  refine stF21 _ ?_
  refine stF22 _ ?_
  refine stF23 _ ?_
  refine stF24 _ ?_
  refine stF25 _ ?_
  refine stF26 _ ?_
  refine stF27 _ ?_
  refine stF28 _ ?_
  refine stF29 _ ?_
  refine stF30 _ ?_
  refine stF31 _ ?_
  refine stF32 _ ?_
  refine stF33 _ ?_
  refine stF34 _ ?_
  refine stF35 _ ?_
  exact ht
def Q0 (n0 : Nat) (v : Option Value) (L : List Loc) : Prop := v = some (.int (1 : Int32)) ∧ Fr n0 L
theorem pn_0 : plainName "com/example/solvent/solvent/vm/OpcodeContinuesPinLaw" = true := by first | (simp [plainName, overriddenIn]; done) | decide +kernel
theorem pd_0_0 : parseMethodDescriptor "()Z" = some ⟨[], some .boolean⟩ := by decide +kernel
theorem ef_0 (m : MethodId) (x0 : Int32) : entryFrame m #[(.int x0)] maxLocals = mkF m 0 #[.val (.int x0), .unset, .unset, .unset, .unset] [] := by first | (simp [entryFrame, mkF, argsToLocals, Value.category, maxLocals]; done) | rfl
set_option maxRecDepth 65536 in
set_option maxHeartbeats 40000000 in
theorem rm0_ttf (l : Launch) (Z : State) (a0 : Array Value) (hw : ∀ d ∈ tables_1, d.before a0 Z = true) (ws : List Jvm.Cond) (p1 : Int32) (w : Nat → Addr) (h0 : Heap) (n0 : Nat) (Z0 : n0 ≤ h0.size) (O0 : Old Z n0 h0) (hS : own_S Z w) (hr : (0 : Int32) = if (w ((p1 &&& (2147483647 : Int32)) % (36 : Int32)).toNatClampNeg) = w 32 ∨ (w ((p1 &&& (2147483647 : Int32)) % (36 : Int32)).toNatClampNeg) = w 35 then (0 : Int32) else (1 : Int32)) (hc267 : ((p1 &&& (2147483647 : Int32)) % (36 : Int32)) = (32 : Int32)) :
    MetFree l x (head1 (Jvm.Cond.code x code maxLocals ret :: ws) room_1) (fun a U => a = #[(.int p1)] ∧ Z.Warmed39 U.vm ∧ U.heap = h0) (fun _ _ _ _ _ => True) (fun _ U o U' => ∃ v L, o = .returned v ∧ Q0 n0 v L ∧ FrameEnd U o U' L room_1.cells room_1.slots) := by
  refine MetFree.of_bodySF (plainFor_of_name pn_0) hisR ?_
  intro p e s m args below meth c s₁ Bd hml0 hP hK
  obtain ⟨rfl, hZ, hh⟩ := hP
  have hx := Bd.exec
  have hby := Bd.bytes
  have hml : c.maxLocals = 5 := hml0
  have hown : s.vm.findClass "com/example/solvent/solvent/vm/OpcodeContinuesPinLaw" = some m.cls := findClass_of_methodNamed Bd.named
  have hnm := (name_of_methodNamed Bd.named Bd.method).1
  have X0 : Stand p l e room_1 s m #[(.int p1)] below meth c s₁ [] 0 0 := Stand.of_body Bd
  have e0 : s₁.heap = h0 := by rw [← hh, Bd.state]; rfl
  have N0 := Fr.nil n0
  have pre0 : ∀ t, Steps p.tables e below (s₁.setTop (mkF m 0 #[.val (.int p1), .unset, .unset, .unset, .unset] [])) t → Steps p.tables e below (s₁.setTop (entryFrame m #[(.int p1)] maxLocals)) t := fun t k => castTop (ef_0 m p1) k
  obtain ⟨TA, hA, b2, kA, lA, XA, eA, OA, NA, g_b2, VA, stA⟩ := own_pre hw X0 hx hby hZ hown e0 O0 Z0 w hS #[.val (.int p1), .unset, .unset, .unset, .unset]
  have hidx := own_idx p1 (36 : Int32) (by decide)
  have hlt : ((p1 &&& (2147483647 : Int32)) % (36 : Int32)).toNatClampNeg < 36 := own_lt (by decide) hidx
  obtain ⟨cl, Ar_b2, q1A, S1A, q3A, HA, GA⟩ := VA
  have EW : Exa Z hA (w ((p1 &&& (2147483647 : Int32)) % (36 : Int32)).toNatClampNeg) "com/example/solvent/solvent/vm/Opcode" := (hS _ hlt).2.ext OA.2
  have hin262 := inb_of S1A hidx
  have hat262 := HA.at hin262 (own_get w hlt)
  obtain ⟨cq112, kq112, q112a, q112b, q112c⟩ := isOf hZ eA EW
  obtain ⟨_, _, ⟨T112, L112, k112, n112⟩, -, X112, ⟨Lc112, hQ112, l112, y112, z112⟩, st112⟩ := XA.virtualBack hx (y := (⟨"com/example/solvent/solvent/vm/Opcode", "continues", "()Z"⟩ : MethodName)) (z := (⟨"com/example/solvent/solvent/vm/Opcode", "continues", "()Z"⟩ : MethodName)) hown (mvT hZ (hw _ (List.mem_of_getElem? (i := 77) rfl))) (mvT hZ (hw _ (List.mem_of_getElem? (i := 78) rfl))) (notFace_of_selects (args := #[]) (mvT hZ (hw _ (List.mem_of_getElem? (i := 80) rfl)))) (mvT hZ (hw _ (List.mem_of_getElem? (i := 80) rfl))) (mvT hZ (hw _ (List.mem_of_getElem? (i := 79) rfl))) (by decide) (backOf (W := 0) (own_c l Z a0 hw [] (w ((p1 &&& (2147483647 : Int32)) % (36 : Int32)).toNatClampNeg) (w 32) (w 35) hA n0 (Nat.le_trans (Nat.le_of_eq OA.1.symm) OA.2.1) ((hS 32 (by decide)).1.ext OA.2) ((hS 35 (by decide)).1.ext OA.2) (0 : Int32) hr) hZ (hw _ (List.mem_of_getElem? (i := 81) rfl)) (hw _ (List.mem_of_getElem? (i := 3) rfl)) (by decide) (by decide)) q112a q112c (g := (mkF m 284 #[.val (.int p1), .val (.ref b2), .val (.int ((p1 &&& (2147483647 : Int32)) % (36 : Int32))), .val (.ref (w ((p1 &&& (2147483647 : Int32)) % (36 : Int32)).toNatClampNeg)), .val (.int (1 : Int32))] [(.ref (w ((p1 &&& (2147483647 : Int32)) % (36 : Int32)).toNatClampNeg))])) rfl (by rw [hml]; rfl) (Steps.refl _) (argsL := []) (rest := []) (lenOf pd_0_0 rfl) rfl (by show 2 * 0 + _ ≤ _; exact Nat.le_of_eq rfl) (hb hby at_284) (fun _ _ => ⟨rfl, eA, (by decide : 1 + 0 ≤ _), (by decide : 36 + 0 ≤ _)⟩)
  dsimp only [Pt.U, Pt.locs, Pt.cells, Pt.slots] at X112 l112 y112 z112 st112 hQ112
  subst l112 y112 z112
  obtain ⟨rfl, N112q, hh112⟩ := hQ112
  have N112 := Fr.app NA N112q
  obtain ⟨fs, hr, hrun, hended, hW, hsame⟩ := X112.leave (v := some (.int (1 : Int32))) (fun h => by rw [Bd.returns] at h; cases h)
  refine ⟨_, _, pre0 _ ?_, hrun, hended, _, _, rfl, ?_, ⟨_, rfl⟩, hW, hsame.mono (by decide) (by decide)⟩
  · show Steps p.tables e below (s₁.setTop (mkF m 0 #[.val (.int p1), .unset, .unset, .unset, .unset] [])) _
    refine stA _ ?_
    show Steps p.tables e below (TA.setTop (mkF m 251 #[.val (.int p1), .unset, .unset, .unset, .unset] [(.ref b2)])) _
    refine XS.astoreN XA.here hx rfl (hb hby at_251) rfl rfl (l' := #[.val (.int p1), .val (.ref b2), .unset, .unset, .unset]) rfl ?_
    show Steps p.tables e below (TA.setTop (mkF m 252 #[.val (.int p1), .val (.ref b2), .unset, .unset, .unset] [])) _
    refine XS.iloadN XA.here hx rfl (hb hby at_252) rfl ?_
    show Steps p.tables e below (TA.setTop (mkF m 253 #[.val (.int p1), .val (.ref b2), .unset, .unset, .unset] [(.int p1)])) _
    refine XA.ldcInt hx hown (mvT hZ (hw _ (List.mem_of_getElem? (i := 76) rfl))) (g := (mkF m 253 #[.val (.int p1), .val (.ref b2), .unset, .unset, .unset] [(.int p1)])) rfl (hb hby at_253) _ ?_
    show Steps p.tables e below (TA.setTop (mkF m 255 #[.val (.int p1), .val (.ref b2), .unset, .unset, .unset] [(.int (2147483647 : Int32)), (.int p1)])) _
    refine XS.iand XA.here hx rfl (hb hby at_255) rfl ?_
    show Steps p.tables e below (TA.setTop (mkF m 256 #[.val (.int p1), .val (.ref b2), .unset, .unset, .unset] [(.int (p1 &&& (2147483647 : Int32)))])) _
    refine XS.bipush XA.here hx rfl (hb hby at_256) ?_
    show Steps p.tables e below (TA.setTop (mkF m 258 #[.val (.int p1), .val (.ref b2), .unset, .unset, .unset] [(.int (36 : Int32)), (.int (p1 &&& (2147483647 : Int32)))])) _
    refine iremM XA hx rfl (hb hby at_258) rfl (by decide) ?_
    show Steps p.tables e below (TA.setTop (mkF m 259 #[.val (.int p1), .val (.ref b2), .unset, .unset, .unset] [(.int ((p1 &&& (2147483647 : Int32)) % (36 : Int32)))])) _
    refine XS.istoreN XA.here hx rfl (hb hby at_259) rfl (l' := #[.val (.int p1), .val (.ref b2), .val (.int ((p1 &&& (2147483647 : Int32)) % (36 : Int32))), .unset, .unset]) rfl ?_
    show Steps p.tables e below (TA.setTop (mkF m 260 #[.val (.int p1), .val (.ref b2), .val (.int ((p1 &&& (2147483647 : Int32)) % (36 : Int32))), .unset, .unset] [])) _
    refine XS.aloadN XA.here hx rfl (hb hby at_260) rfl rfl ?_
    show Steps p.tables e below (TA.setTop (mkF m 261 #[.val (.int p1), .val (.ref b2), .val (.int ((p1 &&& (2147483647 : Int32)) % (36 : Int32))), .unset, .unset] [(.ref b2)])) _
    refine XS.iloadN XA.here hx rfl (hb hby at_261) rfl ?_
    show Steps p.tables e below (TA.setTop (mkF m 262 #[.val (.int p1), .val (.ref b2), .val (.int ((p1 &&& (2147483647 : Int32)) % (36 : Int32))), .unset, .unset] [(.int ((p1 &&& (2147483647 : Int32)) % (36 : Int32))), (.ref b2)])) _
    refine XA.aaload hx (j := ((p1 &&& (2147483647 : Int32)) % (36 : Int32))) (v := (.ref (w ((p1 &&& (2147483647 : Int32)) % (36 : Int32)).toNatClampNeg))) (by rw [eA]; exact Ar_b2.1) (State.isArrayOf_alike hZ.alike Ar_b2.2.1) rfl Ar_b2.2.2 hin262 hat262 (g := (mkF m 262 #[.val (.int p1), .val (.ref b2), .val (.int ((p1 &&& (2147483647 : Int32)) % (36 : Int32))), .unset, .unset] [(.int ((p1 &&& (2147483647 : Int32)) % (36 : Int32))), (.ref b2)])) rfl rfl (hb hby at_262) _ ?_
    show Steps p.tables e below (TA.setTop (mkF m 263 #[.val (.int p1), .val (.ref b2), .val (.int ((p1 &&& (2147483647 : Int32)) % (36 : Int32))), .unset, .unset] [(.ref (w ((p1 &&& (2147483647 : Int32)) % (36 : Int32)).toNatClampNeg))])) _
    refine XS.astoreN XA.here hx rfl (hb hby at_263) rfl rfl (l' := #[.val (.int p1), .val (.ref b2), .val (.int ((p1 &&& (2147483647 : Int32)) % (36 : Int32))), .val (.ref (w ((p1 &&& (2147483647 : Int32)) % (36 : Int32)).toNatClampNeg)), .unset]) rfl ?_
    show Steps p.tables e below (TA.setTop (mkF m 264 #[.val (.int p1), .val (.ref b2), .val (.int ((p1 &&& (2147483647 : Int32)) % (36 : Int32))), .val (.ref (w ((p1 &&& (2147483647 : Int32)) % (36 : Int32)).toNatClampNeg)), .unset] [])) _
    refine XS.iloadN XA.here hx rfl (hb hby at_264) rfl ?_
    show Steps p.tables e below (TA.setTop (mkF m 265 #[.val (.int p1), .val (.ref b2), .val (.int ((p1 &&& (2147483647 : Int32)) % (36 : Int32))), .val (.ref (w ((p1 &&& (2147483647 : Int32)) % (36 : Int32)).toNatClampNeg)), .unset] [(.int ((p1 &&& (2147483647 : Int32)) % (36 : Int32)))])) _
    refine XS.bipush XA.here hx rfl (hb hby at_265) ?_
    show Steps p.tables e below (TA.setTop (mkF m 267 #[.val (.int p1), .val (.ref b2), .val (.int ((p1 &&& (2147483647 : Int32)) % (36 : Int32))), .val (.ref (w ((p1 &&& (2147483647 : Int32)) % (36 : Int32)).toNatClampNeg)), .unset] [(.int (32 : Int32)), (.int ((p1 &&& (2147483647 : Int32)) % (36 : Int32)))])) _
    refine XS.icmpYes XA.here hx rfl (pc0 := 267) (pc' := 276) rfl (hb hby at_267) rfl (teq hc267).1 (by decide) (by decide) ?_
    show Steps p.tables e below (TA.setTop (mkF m 276 #[.val (.int p1), .val (.ref b2), .val (.int ((p1 &&& (2147483647 : Int32)) % (36 : Int32))), .val (.ref (w ((p1 &&& (2147483647 : Int32)) % (36 : Int32)).toNatClampNeg)), .unset] [])) _
    refine XS.iconst XA.here hx rfl (hb hby at_276) ?_
    show Steps p.tables e below (TA.setTop (mkF m 277 #[.val (.int p1), .val (.ref b2), .val (.int ((p1 &&& (2147483647 : Int32)) % (36 : Int32))), .val (.ref (w ((p1 &&& (2147483647 : Int32)) % (36 : Int32)).toNatClampNeg)), .unset] [(.int (1 : Int32))])) _
    refine XS.goto XA.here hx rfl (pc0 := 277) (pc' := 281) rfl (hb hby at_277) (by decide) (by decide) ?_
    show Steps p.tables e below (TA.setTop (mkF m 281 #[.val (.int p1), .val (.ref b2), .val (.int ((p1 &&& (2147483647 : Int32)) % (36 : Int32))), .val (.ref (w ((p1 &&& (2147483647 : Int32)) % (36 : Int32)).toNatClampNeg)), .unset] [(.int (1 : Int32))])) _
    refine XS.istore XA.here hx rfl (hb hby at_281) rfl (l' := #[.val (.int p1), .val (.ref b2), .val (.int ((p1 &&& (2147483647 : Int32)) % (36 : Int32))), .val (.ref (w ((p1 &&& (2147483647 : Int32)) % (36 : Int32)).toNatClampNeg)), .val (.int (1 : Int32))]) rfl ?_
    show Steps p.tables e below (TA.setTop (mkF m 283 #[.val (.int p1), .val (.ref b2), .val (.int ((p1 &&& (2147483647 : Int32)) % (36 : Int32))), .val (.ref (w ((p1 &&& (2147483647 : Int32)) % (36 : Int32)).toNatClampNeg)), .val (.int (1 : Int32))] [])) _
    refine XS.aloadN XA.here hx rfl (hb hby at_283) rfl rfl ?_
    show Steps p.tables e below (TA.setTop (mkF m 284 #[.val (.int p1), .val (.ref b2), .val (.int ((p1 &&& (2147483647 : Int32)) % (36 : Int32))), .val (.ref (w ((p1 &&& (2147483647 : Int32)) % (36 : Int32)).toNatClampNeg)), .val (.int (1 : Int32))] [(.ref (w ((p1 &&& (2147483647 : Int32)) % (36 : Int32)).toNatClampNeg))])) _
    refine st112.trans ?_
    show Steps p.tables e below (T112.setTop (mkF m 287 #[.val (.int p1), .val (.ref b2), .val (.int ((p1 &&& (2147483647 : Int32)) % (36 : Int32))), .val (.ref (w ((p1 &&& (2147483647 : Int32)) % (36 : Int32)).toNatClampNeg)), .val (.int (1 : Int32))] [(.int (0 : Int32))])) _
    refine XS.iload X112.here hx rfl (hb hby at_287) rfl ?_
    show Steps p.tables e below (T112.setTop (mkF m 289 #[.val (.int p1), .val (.ref b2), .val (.int ((p1 &&& (2147483647 : Int32)) % (36 : Int32))), .val (.ref (w ((p1 &&& (2147483647 : Int32)) % (36 : Int32)).toNatClampNeg)), .val (.int (1 : Int32))] [(.int (1 : Int32)), (.int (0 : Int32))])) _
    refine XS.ifYes X112.here hx rfl (pc0 := 289) (pc' := 296) rfl (hb hby at_289) rfl ((if0 _ _).trans (feq (by decide)).2) (by decide) (by decide) ?_
    show Steps p.tables e below (T112.setTop (mkF m 296 #[.val (.int p1), .val (.ref b2), .val (.int ((p1 &&& (2147483647 : Int32)) % (36 : Int32))), .val (.ref (w ((p1 &&& (2147483647 : Int32)) % (36 : Int32)).toNatClampNeg)), .val (.int (1 : Int32))] [(.int (0 : Int32))])) _
    refine XS.iconst X112.here hx rfl (hb hby at_296) ?_
    show Steps p.tables e below (T112.setTop (mkF m 297 #[.val (.int p1), .val (.ref b2), .val (.int ((p1 &&& (2147483647 : Int32)) % (36 : Int32))), .val (.ref (w ((p1 &&& (2147483647 : Int32)) % (36 : Int32)).toNatClampNeg)), .val (.int (1 : Int32))] [(.int (0 : Int32)), (.int (0 : Int32))])) _
    refine XS.icmpNo X112.here hx rfl (hb hby at_297) rfl (teq (rfl : (0 : Int32) = (0 : Int32))).2 ?_
    show Steps p.tables e below (T112.setTop (mkF m 300 #[.val (.int p1), .val (.ref b2), .val (.int ((p1 &&& (2147483647 : Int32)) % (36 : Int32))), .val (.ref (w ((p1 &&& (2147483647 : Int32)) % (36 : Int32)).toNatClampNeg)), .val (.int (1 : Int32))] [])) _
    refine XS.iconst X112.here hx rfl (hb hby at_300) ?_
    show Steps p.tables e below (T112.setTop (mkF m 301 #[.val (.int p1), .val (.ref b2), .val (.int ((p1 &&& (2147483647 : Int32)) % (36 : Int32))), .val (.ref (w ((p1 &&& (2147483647 : Int32)) % (36 : Int32)).toNatClampNeg)), .val (.int (1 : Int32))] [(.int (1 : Int32))])) _
    refine XS.goto X112.here hx rfl (pc0 := 301) (pc' := 305) rfl (hb hby at_301) (by decide) (by decide) ?_
    show Steps p.tables e below (T112.setTop (mkF m 305 #[.val (.int p1), .val (.ref b2), .val (.int ((p1 &&& (2147483647 : Int32)) % (36 : Int32))), .val (.ref (w ((p1 &&& (2147483647 : Int32)) % (36 : Int32)).toNatClampNeg)), .val (.int (1 : Int32))] [(.int (1 : Int32))])) _
    exact retN X112 hx (t := .boolean) Bd.returns (by simp) (hb hby at_305) hr
  · show Q0 n0 _ _
    exact ⟨rfl, N112⟩
set_option maxRecDepth 65536 in
set_option maxHeartbeats 40000000 in
theorem rm0_fftf (l : Launch) (Z : State) (a0 : Array Value) (hw : ∀ d ∈ tables_1, d.before a0 Z = true) (ws : List Jvm.Cond) (p1 : Int32) (w : Nat → Addr) (h0 : Heap) (n0 : Nat) (Z0 : n0 ≤ h0.size) (O0 : Old Z n0 h0) (hS : own_S Z w) (hr : (0 : Int32) = if (w ((p1 &&& (2147483647 : Int32)) % (36 : Int32)).toNatClampNeg) = w 32 ∨ (w ((p1 &&& (2147483647 : Int32)) % (36 : Int32)).toNatClampNeg) = w 35 then (0 : Int32) else (1 : Int32)) (hc267 : ¬ (((p1 &&& (2147483647 : Int32)) % (36 : Int32)) = (32 : Int32))) (hc273 : ((p1 &&& (2147483647 : Int32)) % (36 : Int32)) = (35 : Int32)) :
    MetFree l x (head1 (Jvm.Cond.code x code maxLocals ret :: ws) room_1) (fun a U => a = #[(.int p1)] ∧ Z.Warmed39 U.vm ∧ U.heap = h0) (fun _ _ _ _ _ => True) (fun _ U o U' => ∃ v L, o = .returned v ∧ Q0 n0 v L ∧ FrameEnd U o U' L room_1.cells room_1.slots) := by
  refine MetFree.of_bodySF (plainFor_of_name pn_0) hisR ?_
  intro p e s m args below meth c s₁ Bd hml0 hP hK
  obtain ⟨rfl, hZ, hh⟩ := hP
  have hx := Bd.exec
  have hby := Bd.bytes
  have hml : c.maxLocals = 5 := hml0
  have hown : s.vm.findClass "com/example/solvent/solvent/vm/OpcodeContinuesPinLaw" = some m.cls := findClass_of_methodNamed Bd.named
  have hnm := (name_of_methodNamed Bd.named Bd.method).1
  have X0 : Stand p l e room_1 s m #[(.int p1)] below meth c s₁ [] 0 0 := Stand.of_body Bd
  have e0 : s₁.heap = h0 := by rw [← hh, Bd.state]; rfl
  have N0 := Fr.nil n0
  have pre0 : ∀ t, Steps p.tables e below (s₁.setTop (mkF m 0 #[.val (.int p1), .unset, .unset, .unset, .unset] [])) t → Steps p.tables e below (s₁.setTop (entryFrame m #[(.int p1)] maxLocals)) t := fun t k => castTop (ef_0 m p1) k
  obtain ⟨TA, hA, b2, kA, lA, XA, eA, OA, NA, g_b2, VA, stA⟩ := own_pre hw X0 hx hby hZ hown e0 O0 Z0 w hS #[.val (.int p1), .unset, .unset, .unset, .unset]
  have hidx := own_idx p1 (36 : Int32) (by decide)
  have hlt : ((p1 &&& (2147483647 : Int32)) % (36 : Int32)).toNatClampNeg < 36 := own_lt (by decide) hidx
  obtain ⟨cl, Ar_b2, q1A, S1A, q3A, HA, GA⟩ := VA
  have EW : Exa Z hA (w ((p1 &&& (2147483647 : Int32)) % (36 : Int32)).toNatClampNeg) "com/example/solvent/solvent/vm/Opcode" := (hS _ hlt).2.ext OA.2
  have hin262 := inb_of S1A hidx
  have hat262 := HA.at hin262 (own_get w hlt)
  obtain ⟨cq112, kq112, q112a, q112b, q112c⟩ := isOf hZ eA EW
  obtain ⟨_, _, ⟨T112, L112, k112, n112⟩, -, X112, ⟨Lc112, hQ112, l112, y112, z112⟩, st112⟩ := XA.virtualBack hx (y := (⟨"com/example/solvent/solvent/vm/Opcode", "continues", "()Z"⟩ : MethodName)) (z := (⟨"com/example/solvent/solvent/vm/Opcode", "continues", "()Z"⟩ : MethodName)) hown (mvT hZ (hw _ (List.mem_of_getElem? (i := 77) rfl))) (mvT hZ (hw _ (List.mem_of_getElem? (i := 78) rfl))) (notFace_of_selects (args := #[]) (mvT hZ (hw _ (List.mem_of_getElem? (i := 80) rfl)))) (mvT hZ (hw _ (List.mem_of_getElem? (i := 80) rfl))) (mvT hZ (hw _ (List.mem_of_getElem? (i := 79) rfl))) (by decide) (backOf (W := 0) (own_c l Z a0 hw [] (w ((p1 &&& (2147483647 : Int32)) % (36 : Int32)).toNatClampNeg) (w 32) (w 35) hA n0 (Nat.le_trans (Nat.le_of_eq OA.1.symm) OA.2.1) ((hS 32 (by decide)).1.ext OA.2) ((hS 35 (by decide)).1.ext OA.2) (0 : Int32) hr) hZ (hw _ (List.mem_of_getElem? (i := 81) rfl)) (hw _ (List.mem_of_getElem? (i := 3) rfl)) (by decide) (by decide)) q112a q112c (g := (mkF m 284 #[.val (.int p1), .val (.ref b2), .val (.int ((p1 &&& (2147483647 : Int32)) % (36 : Int32))), .val (.ref (w ((p1 &&& (2147483647 : Int32)) % (36 : Int32)).toNatClampNeg)), .val (.int (1 : Int32))] [(.ref (w ((p1 &&& (2147483647 : Int32)) % (36 : Int32)).toNatClampNeg))])) rfl (by rw [hml]; rfl) (Steps.refl _) (argsL := []) (rest := []) (lenOf pd_0_0 rfl) rfl (by show 2 * 0 + _ ≤ _; exact Nat.le_of_eq rfl) (hb hby at_284) (fun _ _ => ⟨rfl, eA, (by decide : 1 + 0 ≤ _), (by decide : 36 + 0 ≤ _)⟩)
  dsimp only [Pt.U, Pt.locs, Pt.cells, Pt.slots] at X112 l112 y112 z112 st112 hQ112
  subst l112 y112 z112
  obtain ⟨rfl, N112q, hh112⟩ := hQ112
  have N112 := Fr.app NA N112q
  obtain ⟨fs, hr, hrun, hended, hW, hsame⟩ := X112.leave (v := some (.int (1 : Int32))) (fun h => by rw [Bd.returns] at h; cases h)
  refine ⟨_, _, pre0 _ ?_, hrun, hended, _, _, rfl, ?_, ⟨_, rfl⟩, hW, hsame.mono (by decide) (by decide)⟩
  · show Steps p.tables e below (s₁.setTop (mkF m 0 #[.val (.int p1), .unset, .unset, .unset, .unset] [])) _
    refine stA _ ?_
    show Steps p.tables e below (TA.setTop (mkF m 251 #[.val (.int p1), .unset, .unset, .unset, .unset] [(.ref b2)])) _
    refine XS.astoreN XA.here hx rfl (hb hby at_251) rfl rfl (l' := #[.val (.int p1), .val (.ref b2), .unset, .unset, .unset]) rfl ?_
    show Steps p.tables e below (TA.setTop (mkF m 252 #[.val (.int p1), .val (.ref b2), .unset, .unset, .unset] [])) _
    refine XS.iloadN XA.here hx rfl (hb hby at_252) rfl ?_
    show Steps p.tables e below (TA.setTop (mkF m 253 #[.val (.int p1), .val (.ref b2), .unset, .unset, .unset] [(.int p1)])) _
    refine XA.ldcInt hx hown (mvT hZ (hw _ (List.mem_of_getElem? (i := 76) rfl))) (g := (mkF m 253 #[.val (.int p1), .val (.ref b2), .unset, .unset, .unset] [(.int p1)])) rfl (hb hby at_253) _ ?_
    show Steps p.tables e below (TA.setTop (mkF m 255 #[.val (.int p1), .val (.ref b2), .unset, .unset, .unset] [(.int (2147483647 : Int32)), (.int p1)])) _
    refine XS.iand XA.here hx rfl (hb hby at_255) rfl ?_
    show Steps p.tables e below (TA.setTop (mkF m 256 #[.val (.int p1), .val (.ref b2), .unset, .unset, .unset] [(.int (p1 &&& (2147483647 : Int32)))])) _
    refine XS.bipush XA.here hx rfl (hb hby at_256) ?_
    show Steps p.tables e below (TA.setTop (mkF m 258 #[.val (.int p1), .val (.ref b2), .unset, .unset, .unset] [(.int (36 : Int32)), (.int (p1 &&& (2147483647 : Int32)))])) _
    refine iremM XA hx rfl (hb hby at_258) rfl (by decide) ?_
    show Steps p.tables e below (TA.setTop (mkF m 259 #[.val (.int p1), .val (.ref b2), .unset, .unset, .unset] [(.int ((p1 &&& (2147483647 : Int32)) % (36 : Int32)))])) _
    refine XS.istoreN XA.here hx rfl (hb hby at_259) rfl (l' := #[.val (.int p1), .val (.ref b2), .val (.int ((p1 &&& (2147483647 : Int32)) % (36 : Int32))), .unset, .unset]) rfl ?_
    show Steps p.tables e below (TA.setTop (mkF m 260 #[.val (.int p1), .val (.ref b2), .val (.int ((p1 &&& (2147483647 : Int32)) % (36 : Int32))), .unset, .unset] [])) _
    refine XS.aloadN XA.here hx rfl (hb hby at_260) rfl rfl ?_
    show Steps p.tables e below (TA.setTop (mkF m 261 #[.val (.int p1), .val (.ref b2), .val (.int ((p1 &&& (2147483647 : Int32)) % (36 : Int32))), .unset, .unset] [(.ref b2)])) _
    refine XS.iloadN XA.here hx rfl (hb hby at_261) rfl ?_
    show Steps p.tables e below (TA.setTop (mkF m 262 #[.val (.int p1), .val (.ref b2), .val (.int ((p1 &&& (2147483647 : Int32)) % (36 : Int32))), .unset, .unset] [(.int ((p1 &&& (2147483647 : Int32)) % (36 : Int32))), (.ref b2)])) _
    refine XA.aaload hx (j := ((p1 &&& (2147483647 : Int32)) % (36 : Int32))) (v := (.ref (w ((p1 &&& (2147483647 : Int32)) % (36 : Int32)).toNatClampNeg))) (by rw [eA]; exact Ar_b2.1) (State.isArrayOf_alike hZ.alike Ar_b2.2.1) rfl Ar_b2.2.2 hin262 hat262 (g := (mkF m 262 #[.val (.int p1), .val (.ref b2), .val (.int ((p1 &&& (2147483647 : Int32)) % (36 : Int32))), .unset, .unset] [(.int ((p1 &&& (2147483647 : Int32)) % (36 : Int32))), (.ref b2)])) rfl rfl (hb hby at_262) _ ?_
    show Steps p.tables e below (TA.setTop (mkF m 263 #[.val (.int p1), .val (.ref b2), .val (.int ((p1 &&& (2147483647 : Int32)) % (36 : Int32))), .unset, .unset] [(.ref (w ((p1 &&& (2147483647 : Int32)) % (36 : Int32)).toNatClampNeg))])) _
    refine XS.astoreN XA.here hx rfl (hb hby at_263) rfl rfl (l' := #[.val (.int p1), .val (.ref b2), .val (.int ((p1 &&& (2147483647 : Int32)) % (36 : Int32))), .val (.ref (w ((p1 &&& (2147483647 : Int32)) % (36 : Int32)).toNatClampNeg)), .unset]) rfl ?_
    show Steps p.tables e below (TA.setTop (mkF m 264 #[.val (.int p1), .val (.ref b2), .val (.int ((p1 &&& (2147483647 : Int32)) % (36 : Int32))), .val (.ref (w ((p1 &&& (2147483647 : Int32)) % (36 : Int32)).toNatClampNeg)), .unset] [])) _
    refine XS.iloadN XA.here hx rfl (hb hby at_264) rfl ?_
    show Steps p.tables e below (TA.setTop (mkF m 265 #[.val (.int p1), .val (.ref b2), .val (.int ((p1 &&& (2147483647 : Int32)) % (36 : Int32))), .val (.ref (w ((p1 &&& (2147483647 : Int32)) % (36 : Int32)).toNatClampNeg)), .unset] [(.int ((p1 &&& (2147483647 : Int32)) % (36 : Int32)))])) _
    refine XS.bipush XA.here hx rfl (hb hby at_265) ?_
    show Steps p.tables e below (TA.setTop (mkF m 267 #[.val (.int p1), .val (.ref b2), .val (.int ((p1 &&& (2147483647 : Int32)) % (36 : Int32))), .val (.ref (w ((p1 &&& (2147483647 : Int32)) % (36 : Int32)).toNatClampNeg)), .unset] [(.int (32 : Int32)), (.int ((p1 &&& (2147483647 : Int32)) % (36 : Int32)))])) _
    refine XS.icmpNo XA.here hx rfl (hb hby at_267) rfl (feq hc267).1 ?_
    show Steps p.tables e below (TA.setTop (mkF m 270 #[.val (.int p1), .val (.ref b2), .val (.int ((p1 &&& (2147483647 : Int32)) % (36 : Int32))), .val (.ref (w ((p1 &&& (2147483647 : Int32)) % (36 : Int32)).toNatClampNeg)), .unset] [])) _
    refine XS.iloadN XA.here hx rfl (hb hby at_270) rfl ?_
    show Steps p.tables e below (TA.setTop (mkF m 271 #[.val (.int p1), .val (.ref b2), .val (.int ((p1 &&& (2147483647 : Int32)) % (36 : Int32))), .val (.ref (w ((p1 &&& (2147483647 : Int32)) % (36 : Int32)).toNatClampNeg)), .unset] [(.int ((p1 &&& (2147483647 : Int32)) % (36 : Int32)))])) _
    refine XS.bipush XA.here hx rfl (hb hby at_271) ?_
    show Steps p.tables e below (TA.setTop (mkF m 273 #[.val (.int p1), .val (.ref b2), .val (.int ((p1 &&& (2147483647 : Int32)) % (36 : Int32))), .val (.ref (w ((p1 &&& (2147483647 : Int32)) % (36 : Int32)).toNatClampNeg)), .unset] [(.int (35 : Int32)), (.int ((p1 &&& (2147483647 : Int32)) % (36 : Int32)))])) _
    refine XS.icmpNo XA.here hx rfl (hb hby at_273) rfl (teq hc273).2 ?_
    show Steps p.tables e below (TA.setTop (mkF m 276 #[.val (.int p1), .val (.ref b2), .val (.int ((p1 &&& (2147483647 : Int32)) % (36 : Int32))), .val (.ref (w ((p1 &&& (2147483647 : Int32)) % (36 : Int32)).toNatClampNeg)), .unset] [])) _
    refine XS.iconst XA.here hx rfl (hb hby at_276) ?_
    show Steps p.tables e below (TA.setTop (mkF m 277 #[.val (.int p1), .val (.ref b2), .val (.int ((p1 &&& (2147483647 : Int32)) % (36 : Int32))), .val (.ref (w ((p1 &&& (2147483647 : Int32)) % (36 : Int32)).toNatClampNeg)), .unset] [(.int (1 : Int32))])) _
    refine XS.goto XA.here hx rfl (pc0 := 277) (pc' := 281) rfl (hb hby at_277) (by decide) (by decide) ?_
    show Steps p.tables e below (TA.setTop (mkF m 281 #[.val (.int p1), .val (.ref b2), .val (.int ((p1 &&& (2147483647 : Int32)) % (36 : Int32))), .val (.ref (w ((p1 &&& (2147483647 : Int32)) % (36 : Int32)).toNatClampNeg)), .unset] [(.int (1 : Int32))])) _
    refine XS.istore XA.here hx rfl (hb hby at_281) rfl (l' := #[.val (.int p1), .val (.ref b2), .val (.int ((p1 &&& (2147483647 : Int32)) % (36 : Int32))), .val (.ref (w ((p1 &&& (2147483647 : Int32)) % (36 : Int32)).toNatClampNeg)), .val (.int (1 : Int32))]) rfl ?_
    show Steps p.tables e below (TA.setTop (mkF m 283 #[.val (.int p1), .val (.ref b2), .val (.int ((p1 &&& (2147483647 : Int32)) % (36 : Int32))), .val (.ref (w ((p1 &&& (2147483647 : Int32)) % (36 : Int32)).toNatClampNeg)), .val (.int (1 : Int32))] [])) _
    refine XS.aloadN XA.here hx rfl (hb hby at_283) rfl rfl ?_
    show Steps p.tables e below (TA.setTop (mkF m 284 #[.val (.int p1), .val (.ref b2), .val (.int ((p1 &&& (2147483647 : Int32)) % (36 : Int32))), .val (.ref (w ((p1 &&& (2147483647 : Int32)) % (36 : Int32)).toNatClampNeg)), .val (.int (1 : Int32))] [(.ref (w ((p1 &&& (2147483647 : Int32)) % (36 : Int32)).toNatClampNeg))])) _
    refine st112.trans ?_
    show Steps p.tables e below (T112.setTop (mkF m 287 #[.val (.int p1), .val (.ref b2), .val (.int ((p1 &&& (2147483647 : Int32)) % (36 : Int32))), .val (.ref (w ((p1 &&& (2147483647 : Int32)) % (36 : Int32)).toNatClampNeg)), .val (.int (1 : Int32))] [(.int (0 : Int32))])) _
    refine XS.iload X112.here hx rfl (hb hby at_287) rfl ?_
    show Steps p.tables e below (T112.setTop (mkF m 289 #[.val (.int p1), .val (.ref b2), .val (.int ((p1 &&& (2147483647 : Int32)) % (36 : Int32))), .val (.ref (w ((p1 &&& (2147483647 : Int32)) % (36 : Int32)).toNatClampNeg)), .val (.int (1 : Int32))] [(.int (1 : Int32)), (.int (0 : Int32))])) _
    refine XS.ifYes X112.here hx rfl (pc0 := 289) (pc' := 296) rfl (hb hby at_289) rfl ((if0 _ _).trans (feq (by decide)).2) (by decide) (by decide) ?_
    show Steps p.tables e below (T112.setTop (mkF m 296 #[.val (.int p1), .val (.ref b2), .val (.int ((p1 &&& (2147483647 : Int32)) % (36 : Int32))), .val (.ref (w ((p1 &&& (2147483647 : Int32)) % (36 : Int32)).toNatClampNeg)), .val (.int (1 : Int32))] [(.int (0 : Int32))])) _
    refine XS.iconst X112.here hx rfl (hb hby at_296) ?_
    show Steps p.tables e below (T112.setTop (mkF m 297 #[.val (.int p1), .val (.ref b2), .val (.int ((p1 &&& (2147483647 : Int32)) % (36 : Int32))), .val (.ref (w ((p1 &&& (2147483647 : Int32)) % (36 : Int32)).toNatClampNeg)), .val (.int (1 : Int32))] [(.int (0 : Int32)), (.int (0 : Int32))])) _
    refine XS.icmpNo X112.here hx rfl (hb hby at_297) rfl (teq (rfl : (0 : Int32) = (0 : Int32))).2 ?_
    show Steps p.tables e below (T112.setTop (mkF m 300 #[.val (.int p1), .val (.ref b2), .val (.int ((p1 &&& (2147483647 : Int32)) % (36 : Int32))), .val (.ref (w ((p1 &&& (2147483647 : Int32)) % (36 : Int32)).toNatClampNeg)), .val (.int (1 : Int32))] [])) _
    refine XS.iconst X112.here hx rfl (hb hby at_300) ?_
    show Steps p.tables e below (T112.setTop (mkF m 301 #[.val (.int p1), .val (.ref b2), .val (.int ((p1 &&& (2147483647 : Int32)) % (36 : Int32))), .val (.ref (w ((p1 &&& (2147483647 : Int32)) % (36 : Int32)).toNatClampNeg)), .val (.int (1 : Int32))] [(.int (1 : Int32))])) _
    refine XS.goto X112.here hx rfl (pc0 := 301) (pc' := 305) rfl (hb hby at_301) (by decide) (by decide) ?_
    show Steps p.tables e below (T112.setTop (mkF m 305 #[.val (.int p1), .val (.ref b2), .val (.int ((p1 &&& (2147483647 : Int32)) % (36 : Int32))), .val (.ref (w ((p1 &&& (2147483647 : Int32)) % (36 : Int32)).toNatClampNeg)), .val (.int (1 : Int32))] [(.int (1 : Int32))])) _
    exact retN X112 hx (t := .boolean) Bd.returns (by simp) (hb hby at_305) hr
  · show Q0 n0 _ _
    exact ⟨rfl, N112⟩
set_option maxRecDepth 65536 in
set_option maxHeartbeats 40000000 in
theorem rm0_ftff (l : Launch) (Z : State) (a0 : Array Value) (hw : ∀ d ∈ tables_1, d.before a0 Z = true) (ws : List Jvm.Cond) (p1 : Int32) (w : Nat → Addr) (h0 : Heap) (n0 : Nat) (Z0 : n0 ≤ h0.size) (O0 : Old Z n0 h0) (hS : own_S Z w) (hr : (1 : Int32) = if (w ((p1 &&& (2147483647 : Int32)) % (36 : Int32)).toNatClampNeg) = w 32 ∨ (w ((p1 &&& (2147483647 : Int32)) % (36 : Int32)).toNatClampNeg) = w 35 then (0 : Int32) else (1 : Int32)) (hc267 : ¬ (((p1 &&& (2147483647 : Int32)) % (36 : Int32)) = (32 : Int32))) (hc273 : ¬ (((p1 &&& (2147483647 : Int32)) % (36 : Int32)) = (35 : Int32))) :
    MetFree l x (head1 (Jvm.Cond.code x code maxLocals ret :: ws) room_1) (fun a U => a = #[(.int p1)] ∧ Z.Warmed39 U.vm ∧ U.heap = h0) (fun _ _ _ _ _ => True) (fun _ U o U' => ∃ v L, o = .returned v ∧ Q0 n0 v L ∧ FrameEnd U o U' L room_1.cells room_1.slots) := by
  refine MetFree.of_bodySF (plainFor_of_name pn_0) hisR ?_
  intro p e s m args below meth c s₁ Bd hml0 hP hK
  obtain ⟨rfl, hZ, hh⟩ := hP
  have hx := Bd.exec
  have hby := Bd.bytes
  have hml : c.maxLocals = 5 := hml0
  have hown : s.vm.findClass "com/example/solvent/solvent/vm/OpcodeContinuesPinLaw" = some m.cls := findClass_of_methodNamed Bd.named
  have hnm := (name_of_methodNamed Bd.named Bd.method).1
  have X0 : Stand p l e room_1 s m #[(.int p1)] below meth c s₁ [] 0 0 := Stand.of_body Bd
  have e0 : s₁.heap = h0 := by rw [← hh, Bd.state]; rfl
  have N0 := Fr.nil n0
  have pre0 : ∀ t, Steps p.tables e below (s₁.setTop (mkF m 0 #[.val (.int p1), .unset, .unset, .unset, .unset] [])) t → Steps p.tables e below (s₁.setTop (entryFrame m #[(.int p1)] maxLocals)) t := fun t k => castTop (ef_0 m p1) k
  obtain ⟨TA, hA, b2, kA, lA, XA, eA, OA, NA, g_b2, VA, stA⟩ := own_pre hw X0 hx hby hZ hown e0 O0 Z0 w hS #[.val (.int p1), .unset, .unset, .unset, .unset]
  have hidx := own_idx p1 (36 : Int32) (by decide)
  have hlt : ((p1 &&& (2147483647 : Int32)) % (36 : Int32)).toNatClampNeg < 36 := own_lt (by decide) hidx
  obtain ⟨cl, Ar_b2, q1A, S1A, q3A, HA, GA⟩ := VA
  have EW : Exa Z hA (w ((p1 &&& (2147483647 : Int32)) % (36 : Int32)).toNatClampNeg) "com/example/solvent/solvent/vm/Opcode" := (hS _ hlt).2.ext OA.2
  have hin262 := inb_of S1A hidx
  have hat262 := HA.at hin262 (own_get w hlt)
  obtain ⟨cq112, kq112, q112a, q112b, q112c⟩ := isOf hZ eA EW
  obtain ⟨_, _, ⟨T112, L112, k112, n112⟩, -, X112, ⟨Lc112, hQ112, l112, y112, z112⟩, st112⟩ := XA.virtualBack hx (y := (⟨"com/example/solvent/solvent/vm/Opcode", "continues", "()Z"⟩ : MethodName)) (z := (⟨"com/example/solvent/solvent/vm/Opcode", "continues", "()Z"⟩ : MethodName)) hown (mvT hZ (hw _ (List.mem_of_getElem? (i := 77) rfl))) (mvT hZ (hw _ (List.mem_of_getElem? (i := 78) rfl))) (notFace_of_selects (args := #[]) (mvT hZ (hw _ (List.mem_of_getElem? (i := 80) rfl)))) (mvT hZ (hw _ (List.mem_of_getElem? (i := 80) rfl))) (mvT hZ (hw _ (List.mem_of_getElem? (i := 79) rfl))) (by decide) (backOf (W := 0) (own_c l Z a0 hw [] (w ((p1 &&& (2147483647 : Int32)) % (36 : Int32)).toNatClampNeg) (w 32) (w 35) hA n0 (Nat.le_trans (Nat.le_of_eq OA.1.symm) OA.2.1) ((hS 32 (by decide)).1.ext OA.2) ((hS 35 (by decide)).1.ext OA.2) (1 : Int32) hr) hZ (hw _ (List.mem_of_getElem? (i := 81) rfl)) (hw _ (List.mem_of_getElem? (i := 3) rfl)) (by decide) (by decide)) q112a q112c (g := (mkF m 284 #[.val (.int p1), .val (.ref b2), .val (.int ((p1 &&& (2147483647 : Int32)) % (36 : Int32))), .val (.ref (w ((p1 &&& (2147483647 : Int32)) % (36 : Int32)).toNatClampNeg)), .val (.int (0 : Int32))] [(.ref (w ((p1 &&& (2147483647 : Int32)) % (36 : Int32)).toNatClampNeg))])) rfl (by rw [hml]; rfl) (Steps.refl _) (argsL := []) (rest := []) (lenOf pd_0_0 rfl) rfl (by show 2 * 0 + _ ≤ _; exact Nat.le_of_eq rfl) (hb hby at_284) (fun _ _ => ⟨rfl, eA, (by decide : 1 + 0 ≤ _), (by decide : 36 + 0 ≤ _)⟩)
  dsimp only [Pt.U, Pt.locs, Pt.cells, Pt.slots] at X112 l112 y112 z112 st112 hQ112
  subst l112 y112 z112
  obtain ⟨rfl, N112q, hh112⟩ := hQ112
  have N112 := Fr.app NA N112q
  obtain ⟨fs, hr, hrun, hended, hW, hsame⟩ := X112.leave (v := some (.int (1 : Int32))) (fun h => by rw [Bd.returns] at h; cases h)
  refine ⟨_, _, pre0 _ ?_, hrun, hended, _, _, rfl, ?_, ⟨_, rfl⟩, hW, hsame.mono (by decide) (by decide)⟩
  · show Steps p.tables e below (s₁.setTop (mkF m 0 #[.val (.int p1), .unset, .unset, .unset, .unset] [])) _
    refine stA _ ?_
    show Steps p.tables e below (TA.setTop (mkF m 251 #[.val (.int p1), .unset, .unset, .unset, .unset] [(.ref b2)])) _
    refine XS.astoreN XA.here hx rfl (hb hby at_251) rfl rfl (l' := #[.val (.int p1), .val (.ref b2), .unset, .unset, .unset]) rfl ?_
    show Steps p.tables e below (TA.setTop (mkF m 252 #[.val (.int p1), .val (.ref b2), .unset, .unset, .unset] [])) _
    refine XS.iloadN XA.here hx rfl (hb hby at_252) rfl ?_
    show Steps p.tables e below (TA.setTop (mkF m 253 #[.val (.int p1), .val (.ref b2), .unset, .unset, .unset] [(.int p1)])) _
    refine XA.ldcInt hx hown (mvT hZ (hw _ (List.mem_of_getElem? (i := 76) rfl))) (g := (mkF m 253 #[.val (.int p1), .val (.ref b2), .unset, .unset, .unset] [(.int p1)])) rfl (hb hby at_253) _ ?_
    show Steps p.tables e below (TA.setTop (mkF m 255 #[.val (.int p1), .val (.ref b2), .unset, .unset, .unset] [(.int (2147483647 : Int32)), (.int p1)])) _
    refine XS.iand XA.here hx rfl (hb hby at_255) rfl ?_
    show Steps p.tables e below (TA.setTop (mkF m 256 #[.val (.int p1), .val (.ref b2), .unset, .unset, .unset] [(.int (p1 &&& (2147483647 : Int32)))])) _
    refine XS.bipush XA.here hx rfl (hb hby at_256) ?_
    show Steps p.tables e below (TA.setTop (mkF m 258 #[.val (.int p1), .val (.ref b2), .unset, .unset, .unset] [(.int (36 : Int32)), (.int (p1 &&& (2147483647 : Int32)))])) _
    refine iremM XA hx rfl (hb hby at_258) rfl (by decide) ?_
    show Steps p.tables e below (TA.setTop (mkF m 259 #[.val (.int p1), .val (.ref b2), .unset, .unset, .unset] [(.int ((p1 &&& (2147483647 : Int32)) % (36 : Int32)))])) _
    refine XS.istoreN XA.here hx rfl (hb hby at_259) rfl (l' := #[.val (.int p1), .val (.ref b2), .val (.int ((p1 &&& (2147483647 : Int32)) % (36 : Int32))), .unset, .unset]) rfl ?_
    show Steps p.tables e below (TA.setTop (mkF m 260 #[.val (.int p1), .val (.ref b2), .val (.int ((p1 &&& (2147483647 : Int32)) % (36 : Int32))), .unset, .unset] [])) _
    refine XS.aloadN XA.here hx rfl (hb hby at_260) rfl rfl ?_
    show Steps p.tables e below (TA.setTop (mkF m 261 #[.val (.int p1), .val (.ref b2), .val (.int ((p1 &&& (2147483647 : Int32)) % (36 : Int32))), .unset, .unset] [(.ref b2)])) _
    refine XS.iloadN XA.here hx rfl (hb hby at_261) rfl ?_
    show Steps p.tables e below (TA.setTop (mkF m 262 #[.val (.int p1), .val (.ref b2), .val (.int ((p1 &&& (2147483647 : Int32)) % (36 : Int32))), .unset, .unset] [(.int ((p1 &&& (2147483647 : Int32)) % (36 : Int32))), (.ref b2)])) _
    refine XA.aaload hx (j := ((p1 &&& (2147483647 : Int32)) % (36 : Int32))) (v := (.ref (w ((p1 &&& (2147483647 : Int32)) % (36 : Int32)).toNatClampNeg))) (by rw [eA]; exact Ar_b2.1) (State.isArrayOf_alike hZ.alike Ar_b2.2.1) rfl Ar_b2.2.2 hin262 hat262 (g := (mkF m 262 #[.val (.int p1), .val (.ref b2), .val (.int ((p1 &&& (2147483647 : Int32)) % (36 : Int32))), .unset, .unset] [(.int ((p1 &&& (2147483647 : Int32)) % (36 : Int32))), (.ref b2)])) rfl rfl (hb hby at_262) _ ?_
    show Steps p.tables e below (TA.setTop (mkF m 263 #[.val (.int p1), .val (.ref b2), .val (.int ((p1 &&& (2147483647 : Int32)) % (36 : Int32))), .unset, .unset] [(.ref (w ((p1 &&& (2147483647 : Int32)) % (36 : Int32)).toNatClampNeg))])) _
    refine XS.astoreN XA.here hx rfl (hb hby at_263) rfl rfl (l' := #[.val (.int p1), .val (.ref b2), .val (.int ((p1 &&& (2147483647 : Int32)) % (36 : Int32))), .val (.ref (w ((p1 &&& (2147483647 : Int32)) % (36 : Int32)).toNatClampNeg)), .unset]) rfl ?_
    show Steps p.tables e below (TA.setTop (mkF m 264 #[.val (.int p1), .val (.ref b2), .val (.int ((p1 &&& (2147483647 : Int32)) % (36 : Int32))), .val (.ref (w ((p1 &&& (2147483647 : Int32)) % (36 : Int32)).toNatClampNeg)), .unset] [])) _
    refine XS.iloadN XA.here hx rfl (hb hby at_264) rfl ?_
    show Steps p.tables e below (TA.setTop (mkF m 265 #[.val (.int p1), .val (.ref b2), .val (.int ((p1 &&& (2147483647 : Int32)) % (36 : Int32))), .val (.ref (w ((p1 &&& (2147483647 : Int32)) % (36 : Int32)).toNatClampNeg)), .unset] [(.int ((p1 &&& (2147483647 : Int32)) % (36 : Int32)))])) _
    refine XS.bipush XA.here hx rfl (hb hby at_265) ?_
    show Steps p.tables e below (TA.setTop (mkF m 267 #[.val (.int p1), .val (.ref b2), .val (.int ((p1 &&& (2147483647 : Int32)) % (36 : Int32))), .val (.ref (w ((p1 &&& (2147483647 : Int32)) % (36 : Int32)).toNatClampNeg)), .unset] [(.int (32 : Int32)), (.int ((p1 &&& (2147483647 : Int32)) % (36 : Int32)))])) _
    refine XS.icmpNo XA.here hx rfl (hb hby at_267) rfl (feq hc267).1 ?_
    show Steps p.tables e below (TA.setTop (mkF m 270 #[.val (.int p1), .val (.ref b2), .val (.int ((p1 &&& (2147483647 : Int32)) % (36 : Int32))), .val (.ref (w ((p1 &&& (2147483647 : Int32)) % (36 : Int32)).toNatClampNeg)), .unset] [])) _
    refine XS.iloadN XA.here hx rfl (hb hby at_270) rfl ?_
    show Steps p.tables e below (TA.setTop (mkF m 271 #[.val (.int p1), .val (.ref b2), .val (.int ((p1 &&& (2147483647 : Int32)) % (36 : Int32))), .val (.ref (w ((p1 &&& (2147483647 : Int32)) % (36 : Int32)).toNatClampNeg)), .unset] [(.int ((p1 &&& (2147483647 : Int32)) % (36 : Int32)))])) _
    refine XS.bipush XA.here hx rfl (hb hby at_271) ?_
    show Steps p.tables e below (TA.setTop (mkF m 273 #[.val (.int p1), .val (.ref b2), .val (.int ((p1 &&& (2147483647 : Int32)) % (36 : Int32))), .val (.ref (w ((p1 &&& (2147483647 : Int32)) % (36 : Int32)).toNatClampNeg)), .unset] [(.int (35 : Int32)), (.int ((p1 &&& (2147483647 : Int32)) % (36 : Int32)))])) _
    refine XS.icmpYes XA.here hx rfl (pc0 := 273) (pc' := 280) rfl (hb hby at_273) rfl (feq hc273).2 (by decide) (by decide) ?_
    show Steps p.tables e below (TA.setTop (mkF m 280 #[.val (.int p1), .val (.ref b2), .val (.int ((p1 &&& (2147483647 : Int32)) % (36 : Int32))), .val (.ref (w ((p1 &&& (2147483647 : Int32)) % (36 : Int32)).toNatClampNeg)), .unset] [])) _
    refine XS.iconst XA.here hx rfl (hb hby at_280) ?_
    show Steps p.tables e below (TA.setTop (mkF m 281 #[.val (.int p1), .val (.ref b2), .val (.int ((p1 &&& (2147483647 : Int32)) % (36 : Int32))), .val (.ref (w ((p1 &&& (2147483647 : Int32)) % (36 : Int32)).toNatClampNeg)), .unset] [(.int (0 : Int32))])) _
    refine XS.istore XA.here hx rfl (hb hby at_281) rfl (l' := #[.val (.int p1), .val (.ref b2), .val (.int ((p1 &&& (2147483647 : Int32)) % (36 : Int32))), .val (.ref (w ((p1 &&& (2147483647 : Int32)) % (36 : Int32)).toNatClampNeg)), .val (.int (0 : Int32))]) rfl ?_
    show Steps p.tables e below (TA.setTop (mkF m 283 #[.val (.int p1), .val (.ref b2), .val (.int ((p1 &&& (2147483647 : Int32)) % (36 : Int32))), .val (.ref (w ((p1 &&& (2147483647 : Int32)) % (36 : Int32)).toNatClampNeg)), .val (.int (0 : Int32))] [])) _
    refine XS.aloadN XA.here hx rfl (hb hby at_283) rfl rfl ?_
    show Steps p.tables e below (TA.setTop (mkF m 284 #[.val (.int p1), .val (.ref b2), .val (.int ((p1 &&& (2147483647 : Int32)) % (36 : Int32))), .val (.ref (w ((p1 &&& (2147483647 : Int32)) % (36 : Int32)).toNatClampNeg)), .val (.int (0 : Int32))] [(.ref (w ((p1 &&& (2147483647 : Int32)) % (36 : Int32)).toNatClampNeg))])) _
    refine st112.trans ?_
    show Steps p.tables e below (T112.setTop (mkF m 287 #[.val (.int p1), .val (.ref b2), .val (.int ((p1 &&& (2147483647 : Int32)) % (36 : Int32))), .val (.ref (w ((p1 &&& (2147483647 : Int32)) % (36 : Int32)).toNatClampNeg)), .val (.int (0 : Int32))] [(.int (1 : Int32))])) _
    refine XS.iload X112.here hx rfl (hb hby at_287) rfl ?_
    show Steps p.tables e below (T112.setTop (mkF m 289 #[.val (.int p1), .val (.ref b2), .val (.int ((p1 &&& (2147483647 : Int32)) % (36 : Int32))), .val (.ref (w ((p1 &&& (2147483647 : Int32)) % (36 : Int32)).toNatClampNeg)), .val (.int (0 : Int32))] [(.int (0 : Int32)), (.int (1 : Int32))])) _
    refine XS.ifNo X112.here hx rfl (hb hby at_289) rfl ((if0 _ _).trans (teq (rfl : (0 : Int32) = (0 : Int32))).2) ?_
    show Steps p.tables e below (T112.setTop (mkF m 292 #[.val (.int p1), .val (.ref b2), .val (.int ((p1 &&& (2147483647 : Int32)) % (36 : Int32))), .val (.ref (w ((p1 &&& (2147483647 : Int32)) % (36 : Int32)).toNatClampNeg)), .val (.int (0 : Int32))] [(.int (1 : Int32))])) _
    refine XS.iconst X112.here hx rfl (hb hby at_292) ?_
    show Steps p.tables e below (T112.setTop (mkF m 293 #[.val (.int p1), .val (.ref b2), .val (.int ((p1 &&& (2147483647 : Int32)) % (36 : Int32))), .val (.ref (w ((p1 &&& (2147483647 : Int32)) % (36 : Int32)).toNatClampNeg)), .val (.int (0 : Int32))] [(.int (1 : Int32)), (.int (1 : Int32))])) _
    refine XS.goto X112.here hx rfl (pc0 := 293) (pc' := 297) rfl (hb hby at_293) (by decide) (by decide) ?_
    show Steps p.tables e below (T112.setTop (mkF m 297 #[.val (.int p1), .val (.ref b2), .val (.int ((p1 &&& (2147483647 : Int32)) % (36 : Int32))), .val (.ref (w ((p1 &&& (2147483647 : Int32)) % (36 : Int32)).toNatClampNeg)), .val (.int (0 : Int32))] [(.int (1 : Int32)), (.int (1 : Int32))])) _
    refine XS.icmpNo X112.here hx rfl (hb hby at_297) rfl (teq (rfl : (1 : Int32) = (1 : Int32))).2 ?_
    show Steps p.tables e below (T112.setTop (mkF m 300 #[.val (.int p1), .val (.ref b2), .val (.int ((p1 &&& (2147483647 : Int32)) % (36 : Int32))), .val (.ref (w ((p1 &&& (2147483647 : Int32)) % (36 : Int32)).toNatClampNeg)), .val (.int (0 : Int32))] [])) _
    refine XS.iconst X112.here hx rfl (hb hby at_300) ?_
    show Steps p.tables e below (T112.setTop (mkF m 301 #[.val (.int p1), .val (.ref b2), .val (.int ((p1 &&& (2147483647 : Int32)) % (36 : Int32))), .val (.ref (w ((p1 &&& (2147483647 : Int32)) % (36 : Int32)).toNatClampNeg)), .val (.int (0 : Int32))] [(.int (1 : Int32))])) _
    refine XS.goto X112.here hx rfl (pc0 := 301) (pc' := 305) rfl (hb hby at_301) (by decide) (by decide) ?_
    show Steps p.tables e below (T112.setTop (mkF m 305 #[.val (.int p1), .val (.ref b2), .val (.int ((p1 &&& (2147483647 : Int32)) % (36 : Int32))), .val (.ref (w ((p1 &&& (2147483647 : Int32)) % (36 : Int32)).toNatClampNeg)), .val (.int (0 : Int32))] [(.int (1 : Int32))])) _
    exact retN X112 hx (t := .boolean) Bd.returns (by simp) (hb hby at_305) hr
  · show Q0 n0 _ _
    exact ⟨rfl, N112⟩
set_option maxRecDepth 65536 in
set_option maxHeartbeats 40000000 in
theorem comes_1 {Post : Tables → Env → Array Value → State → Outcome → State → Prop} (hpost : ∀ tb e args s v u, (limb_1_1.after args s (.returned v) u = true ∧ limb_1_2.after args s (.returned v) u = true ∧ True) → FrameEnd s (.returned v) u (Jvm.fieldLocs frame_1_writes args s ++ Jvm.arrayLocs frame_1_arrays args s ++ Jvm.staticLocs frame_1_statics s) 16 192 → Post tb e args s (.returned v) u) :
    ArmFor flags0 classFile x code maxLocals ret World_1 tables_1 room_1 Calls_1 rest_1 Pre_1 Post := by
  intro l hfl _ _ p e ha hc hk s m args below hf hA hF happ hP
  obtain ⟨hcalls, hrest, hpre⟩ := hP
  obtain ⟨-, -, -, hnamed, -, -, -, hat⟩ := (Spec.applies_iff hf).mp happ
  obtain ⟨hg, hn⟩ := and_e (Cond.before_iff.mp (show (Jvm.Cond.and given_1 narrow_1).before args s = true from hpre))
  obtain ⟨g113, g114⟩ := and_e hg
  obtain ⟨w0, rfl⟩ : ∃ w0 : Value, args = #[w0] := by
    have hs : args.size = 1 := by simpa [Cond.value, given_1] using g113
    obtain ⟨L⟩ := args
    match L, hs with
    | [w0], _ => exact ⟨w0, rfl⟩
  have hw := fun d (hd : d ∈ tables_1) => atoms_spec (ws := Jvm.Cond.code x code maxLocals ret :: tables_1) hat d (List.mem_cons_of_mem _ hd)
  have hfit : Fit s := fun {y c} hc i hi => by
    obtain ⟨ha, rfl⟩ := Array.getElem?_eq_some_iff.mp hc
    have q := List.all_eq_true.mp ((Array.all_eq_true_iff_forall_mem.mp hF) _ (Array.getElem_mem ha)) i (List.mem_range.mpr hi)
    simpa [Array.getElem?_eq_getElem hi] using q
  obtain ⟨i0, ei0⟩ := is_v g114
  obtain rfl : w0 = (.int i0) := Option.some.inj ei0
  obtain ⟨x0, n0⟩ := and_e hn
  obtain ⟨x1, n1⟩ := and_e n0
  obtain ⟨x2, n2⟩ := and_e n1
  obtain ⟨x3, n3⟩ := and_e n2
  obtain ⟨x4, n4⟩ := and_e n3
  obtain ⟨x5, n5⟩ := and_e n4
  obtain ⟨x6, n6⟩ := and_e n5
  obtain ⟨x7, n7⟩ := and_e n6
  obtain ⟨x8, n8⟩ := and_e n7
  obtain ⟨x9, n9⟩ := and_e n8
  obtain ⟨x10, n10⟩ := and_e n9
  obtain ⟨x11, n11⟩ := and_e n10
  obtain ⟨x12, n12⟩ := and_e n11
  obtain ⟨x13, n13⟩ := and_e n12
  obtain ⟨x14, n14⟩ := and_e n13
  obtain ⟨x15, n15⟩ := and_e n14
  obtain ⟨x16, n16⟩ := and_e n15
  obtain ⟨x17, n17⟩ := and_e n16
  obtain ⟨x18, n18⟩ := and_e n17
  obtain ⟨x19, n19⟩ := and_e n18
  obtain ⟨x20, n20⟩ := and_e n19
  obtain ⟨x21, n21⟩ := and_e n20
  obtain ⟨x22, n22⟩ := and_e n21
  obtain ⟨x23, n23⟩ := and_e n22
  obtain ⟨x24, n24⟩ := and_e n23
  obtain ⟨x25, n25⟩ := and_e n24
  obtain ⟨x26, n26⟩ := and_e n25
  obtain ⟨x27, n27⟩ := and_e n26
  obtain ⟨x28, n28⟩ := and_e n27
  obtain ⟨x29, n29⟩ := and_e n28
  obtain ⟨x30, n30⟩ := and_e n29
  obtain ⟨x31, n31⟩ := and_e n30
  obtain ⟨x32, n32⟩ := and_e n31
  obtain ⟨x33, n33⟩ := and_e n32
  obtain ⟨x34, n34⟩ := and_e n33
  obtain ⟨x35, n35⟩ := and_e n34
  obtain ⟨o0, n36⟩ := and_e n35
  obtain ⟨o32, n37⟩ := and_e n36
  obtain ⟨o35, n38⟩ := and_e n37
  obtain ⟨o3, n39⟩ := and_e n38
  obtain ⟨o2, n40⟩ := and_e n39
  obtain ⟨o19, n41⟩ := and_e n40
  obtain ⟨o7, n42⟩ := and_e n41
  obtain ⟨o11, n43⟩ := and_e n42
  obtain ⟨o4, n44⟩ := and_e n43
  obtain ⟨o8, n45⟩ := and_e n44
  obtain ⟨o1, n46⟩ := and_e n45
  obtain ⟨o12, n47⟩ := and_e n46
  obtain ⟨o34, n48⟩ := and_e n47
  obtain ⟨o33, n49⟩ := and_e n48
  obtain ⟨o10, n50⟩ := and_e n49
  obtain ⟨o31, n51⟩ := and_e n50
  obtain ⟨o16, n52⟩ := and_e n51
  obtain ⟨o20, n53⟩ := and_e n52
  obtain ⟨o15, n54⟩ := and_e n53
  obtain ⟨o26, n55⟩ := and_e n54
  obtain ⟨o24, n56⟩ := and_e n55
  obtain ⟨o28, n57⟩ := and_e n56
  obtain ⟨o6, n58⟩ := and_e n57
  obtain ⟨o17, n59⟩ := and_e n58
  obtain ⟨o5, n60⟩ := and_e n59
  obtain ⟨o14, n61⟩ := and_e n60
  obtain ⟨o21, n62⟩ := and_e n61
  obtain ⟨o9, n63⟩ := and_e n62
  obtain ⟨o13, n64⟩ := and_e n63
  obtain ⟨o22, n65⟩ := and_e n64
  obtain ⟨o18, n66⟩ := and_e n65
  obtain ⟨o30, n67⟩ := and_e n66
  obtain ⟨o27, n68⟩ := and_e n67
  obtain ⟨o25, n69⟩ := and_e n68
  obtain ⟨o23, o29⟩ := and_e n69
  obtain ⟨a0, e0⟩ := exa_v x0
  obtain ⟨a1, e1⟩ := exa_v x1
  obtain ⟨a2, e2⟩ := exa_v x2
  obtain ⟨a3, e3⟩ := exa_v x3
  obtain ⟨a4, e4⟩ := exa_v x4
  obtain ⟨a5, e5⟩ := exa_v x5
  obtain ⟨a6, e6⟩ := exa_v x6
  obtain ⟨a7, e7⟩ := exa_v x7
  obtain ⟨a8, e8⟩ := exa_v x8
  obtain ⟨a9, e9⟩ := exa_v x9
  obtain ⟨a10, e10⟩ := exa_v x10
  obtain ⟨a11, e11⟩ := exa_v x11
  obtain ⟨a12, e12⟩ := exa_v x12
  obtain ⟨a13, e13⟩ := exa_v x13
  obtain ⟨a14, e14⟩ := exa_v x14
  obtain ⟨a15, e15⟩ := exa_v x15
  obtain ⟨a16, e16⟩ := exa_v x16
  obtain ⟨a17, e17⟩ := exa_v x17
  obtain ⟨a18, e18⟩ := exa_v x18
  obtain ⟨a19, e19⟩ := exa_v x19
  obtain ⟨a20, e20⟩ := exa_v x20
  obtain ⟨a21, e21⟩ := exa_v x21
  obtain ⟨a22, e22⟩ := exa_v x22
  obtain ⟨a23, e23⟩ := exa_v x23
  obtain ⟨a24, e24⟩ := exa_v x24
  obtain ⟨a25, e25⟩ := exa_v x25
  obtain ⟨a26, e26⟩ := exa_v x26
  obtain ⟨a27, e27⟩ := exa_v x27
  obtain ⟨a28, e28⟩ := exa_v x28
  obtain ⟨a29, e29⟩ := exa_v x29
  obtain ⟨a30, e30⟩ := exa_v x30
  obtain ⟨a31, e31⟩ := exa_v x31
  obtain ⟨a32, e32⟩ := exa_v x32
  obtain ⟨a33, e33⟩ := exa_v x33
  obtain ⟨a34, e34⟩ := exa_v x34
  obtain ⟨a35, e35⟩ := exa_v x35
  have hS : own_S s (own_w [a0, a1, a2, a3, a4, a5, a6, a7, a8, a9, a10, a11, a12, a13, a14, a15, a16, a17, a18, a19, a20, a21, a22, a23, a24, a25, a26, a27, a28, a29, a30, a31, a32, a33, a34, a35]) := fun i hi => match i, hi with
    | 0, _ => ⟨Sta.start e0 (Or.inr ⟨(hw _ (List.mem_of_getElem? (i := 3) rfl)), (hw _ (List.mem_of_getElem? (i := 4) rfl))⟩), Exa.start e0 x0⟩
    | 1, _ => ⟨Sta.start e1 (Or.inr ⟨(hw _ (List.mem_of_getElem? (i := 3) rfl)), (hw _ (List.mem_of_getElem? (i := 7) rfl))⟩), Exa.start e1 x1⟩
    | 2, _ => ⟨Sta.start e2 (Or.inr ⟨(hw _ (List.mem_of_getElem? (i := 3) rfl)), (hw _ (List.mem_of_getElem? (i := 9) rfl))⟩), Exa.start e2 x2⟩
    | 3, _ => ⟨Sta.start e3 (Or.inr ⟨(hw _ (List.mem_of_getElem? (i := 3) rfl)), (hw _ (List.mem_of_getElem? (i := 11) rfl))⟩), Exa.start e3 x3⟩
    | 4, _ => ⟨Sta.start e4 (Or.inr ⟨(hw _ (List.mem_of_getElem? (i := 3) rfl)), (hw _ (List.mem_of_getElem? (i := 13) rfl))⟩), Exa.start e4 x4⟩
    | 5, _ => ⟨Sta.start e5 (Or.inr ⟨(hw _ (List.mem_of_getElem? (i := 3) rfl)), (hw _ (List.mem_of_getElem? (i := 15) rfl))⟩), Exa.start e5 x5⟩
    | 6, _ => ⟨Sta.start e6 (Or.inr ⟨(hw _ (List.mem_of_getElem? (i := 3) rfl)), (hw _ (List.mem_of_getElem? (i := 17) rfl))⟩), Exa.start e6 x6⟩
    | 7, _ => ⟨Sta.start e7 (Or.inr ⟨(hw _ (List.mem_of_getElem? (i := 3) rfl)), (hw _ (List.mem_of_getElem? (i := 19) rfl))⟩), Exa.start e7 x7⟩
    | 8, _ => ⟨Sta.start e8 (Or.inr ⟨(hw _ (List.mem_of_getElem? (i := 3) rfl)), (hw _ (List.mem_of_getElem? (i := 21) rfl))⟩), Exa.start e8 x8⟩
    | 9, _ => ⟨Sta.start e9 (Or.inr ⟨(hw _ (List.mem_of_getElem? (i := 3) rfl)), (hw _ (List.mem_of_getElem? (i := 23) rfl))⟩), Exa.start e9 x9⟩
    | 10, _ => ⟨Sta.start e10 (Or.inr ⟨(hw _ (List.mem_of_getElem? (i := 3) rfl)), (hw _ (List.mem_of_getElem? (i := 25) rfl))⟩), Exa.start e10 x10⟩
    | 11, _ => ⟨Sta.start e11 (Or.inr ⟨(hw _ (List.mem_of_getElem? (i := 3) rfl)), (hw _ (List.mem_of_getElem? (i := 27) rfl))⟩), Exa.start e11 x11⟩
    | 12, _ => ⟨Sta.start e12 (Or.inr ⟨(hw _ (List.mem_of_getElem? (i := 3) rfl)), (hw _ (List.mem_of_getElem? (i := 29) rfl))⟩), Exa.start e12 x12⟩
    | 13, _ => ⟨Sta.start e13 (Or.inr ⟨(hw _ (List.mem_of_getElem? (i := 3) rfl)), (hw _ (List.mem_of_getElem? (i := 31) rfl))⟩), Exa.start e13 x13⟩
    | 14, _ => ⟨Sta.start e14 (Or.inr ⟨(hw _ (List.mem_of_getElem? (i := 3) rfl)), (hw _ (List.mem_of_getElem? (i := 33) rfl))⟩), Exa.start e14 x14⟩
    | 15, _ => ⟨Sta.start e15 (Or.inr ⟨(hw _ (List.mem_of_getElem? (i := 3) rfl)), (hw _ (List.mem_of_getElem? (i := 35) rfl))⟩), Exa.start e15 x15⟩
    | 16, _ => ⟨Sta.start e16 (Or.inr ⟨(hw _ (List.mem_of_getElem? (i := 3) rfl)), (hw _ (List.mem_of_getElem? (i := 37) rfl))⟩), Exa.start e16 x16⟩
    | 17, _ => ⟨Sta.start e17 (Or.inr ⟨(hw _ (List.mem_of_getElem? (i := 3) rfl)), (hw _ (List.mem_of_getElem? (i := 39) rfl))⟩), Exa.start e17 x17⟩
    | 18, _ => ⟨Sta.start e18 (Or.inr ⟨(hw _ (List.mem_of_getElem? (i := 3) rfl)), (hw _ (List.mem_of_getElem? (i := 41) rfl))⟩), Exa.start e18 x18⟩
    | 19, _ => ⟨Sta.start e19 (Or.inr ⟨(hw _ (List.mem_of_getElem? (i := 3) rfl)), (hw _ (List.mem_of_getElem? (i := 43) rfl))⟩), Exa.start e19 x19⟩
    | 20, _ => ⟨Sta.start e20 (Or.inr ⟨(hw _ (List.mem_of_getElem? (i := 3) rfl)), (hw _ (List.mem_of_getElem? (i := 45) rfl))⟩), Exa.start e20 x20⟩
    | 21, _ => ⟨Sta.start e21 (Or.inr ⟨(hw _ (List.mem_of_getElem? (i := 3) rfl)), (hw _ (List.mem_of_getElem? (i := 47) rfl))⟩), Exa.start e21 x21⟩
    | 22, _ => ⟨Sta.start e22 (Or.inr ⟨(hw _ (List.mem_of_getElem? (i := 3) rfl)), (hw _ (List.mem_of_getElem? (i := 49) rfl))⟩), Exa.start e22 x22⟩
    | 23, _ => ⟨Sta.start e23 (Or.inr ⟨(hw _ (List.mem_of_getElem? (i := 3) rfl)), (hw _ (List.mem_of_getElem? (i := 51) rfl))⟩), Exa.start e23 x23⟩
    | 24, _ => ⟨Sta.start e24 (Or.inr ⟨(hw _ (List.mem_of_getElem? (i := 3) rfl)), (hw _ (List.mem_of_getElem? (i := 53) rfl))⟩), Exa.start e24 x24⟩
    | 25, _ => ⟨Sta.start e25 (Or.inr ⟨(hw _ (List.mem_of_getElem? (i := 3) rfl)), (hw _ (List.mem_of_getElem? (i := 55) rfl))⟩), Exa.start e25 x25⟩
    | 26, _ => ⟨Sta.start e26 (Or.inr ⟨(hw _ (List.mem_of_getElem? (i := 3) rfl)), (hw _ (List.mem_of_getElem? (i := 57) rfl))⟩), Exa.start e26 x26⟩
    | 27, _ => ⟨Sta.start e27 (Or.inr ⟨(hw _ (List.mem_of_getElem? (i := 3) rfl)), (hw _ (List.mem_of_getElem? (i := 59) rfl))⟩), Exa.start e27 x27⟩
    | 28, _ => ⟨Sta.start e28 (Or.inr ⟨(hw _ (List.mem_of_getElem? (i := 3) rfl)), (hw _ (List.mem_of_getElem? (i := 61) rfl))⟩), Exa.start e28 x28⟩
    | 29, _ => ⟨Sta.start e29 (Or.inr ⟨(hw _ (List.mem_of_getElem? (i := 3) rfl)), (hw _ (List.mem_of_getElem? (i := 63) rfl))⟩), Exa.start e29 x29⟩
    | 30, _ => ⟨Sta.start e30 (Or.inr ⟨(hw _ (List.mem_of_getElem? (i := 3) rfl)), (hw _ (List.mem_of_getElem? (i := 65) rfl))⟩), Exa.start e30 x30⟩
    | 31, _ => ⟨Sta.start e31 (Or.inr ⟨(hw _ (List.mem_of_getElem? (i := 3) rfl)), (hw _ (List.mem_of_getElem? (i := 67) rfl))⟩), Exa.start e31 x31⟩
    | 32, _ => ⟨Sta.start e32 (Or.inr ⟨(hw _ (List.mem_of_getElem? (i := 3) rfl)), (hw _ (List.mem_of_getElem? (i := 69) rfl))⟩), Exa.start e32 x32⟩
    | 33, _ => ⟨Sta.start e33 (Or.inr ⟨(hw _ (List.mem_of_getElem? (i := 3) rfl)), (hw _ (List.mem_of_getElem? (i := 71) rfl))⟩), Exa.start e33 x33⟩
    | 34, _ => ⟨Sta.start e34 (Or.inr ⟨(hw _ (List.mem_of_getElem? (i := 3) rfl)), (hw _ (List.mem_of_getElem? (i := 73) rfl))⟩), Exa.start e34 x34⟩
    | 35, _ => ⟨Sta.start e35 (Or.inr ⟨(hw _ (List.mem_of_getElem? (i := 3) rfl)), (hw _ (List.mem_of_getElem? (i := 75) rfl))⟩), Exa.start e35 x35⟩
    | i + 36, h => absurd h (by omega)
  have hO : ∀ i, i < 36 → s.fieldOf? ((own_w [a0, a1, a2, a3, a4, a5, a6, a7, a8, a9, a10, a11, a12, a13, a14, a15, a16, a17, a18, a19, a20, a21, a22, a23, a24, a25, a26, a27, a28, a29, a30, a31, a32, a33, a34, a35]) i) "java/lang/Enum" "ordinal" "I" = some (.int (Int32.ofNat i)) := fun i hi => match i, hi with
    | 0, _ => own_ord e0 o0
    | 1, _ => own_ord e1 o1
    | 2, _ => own_ord e2 o2
    | 3, _ => own_ord e3 o3
    | 4, _ => own_ord e4 o4
    | 5, _ => own_ord e5 o5
    | 6, _ => own_ord e6 o6
    | 7, _ => own_ord e7 o7
    | 8, _ => own_ord e8 o8
    | 9, _ => own_ord e9 o9
    | 10, _ => own_ord e10 o10
    | 11, _ => own_ord e11 o11
    | 12, _ => own_ord e12 o12
    | 13, _ => own_ord e13 o13
    | 14, _ => own_ord e14 o14
    | 15, _ => own_ord e15 o15
    | 16, _ => own_ord e16 o16
    | 17, _ => own_ord e17 o17
    | 18, _ => own_ord e18 o18
    | 19, _ => own_ord e19 o19
    | 20, _ => own_ord e20 o20
    | 21, _ => own_ord e21 o21
    | 22, _ => own_ord e22 o22
    | 23, _ => own_ord e23 o23
    | 24, _ => own_ord e24 o24
    | 25, _ => own_ord e25 o25
    | 26, _ => own_ord e26 o26
    | 27, _ => own_ord e27 o27
    | 28, _ => own_ord e28 o28
    | 29, _ => own_ord e29 o29
    | 30, _ => own_ord e30 o30
    | 31, _ => own_ord e31 o31
    | 32, _ => own_ord e32 o32
    | 33, _ => own_ord e33 o33
    | 34, _ => own_ord e34 o34
    | 35, _ => own_ord e35 o35
    | i + 36, h => absurd h (by omega)
  generalize (own_w [a0, a1, a2, a3, a4, a5, a6, a7, a8, a9, a10, a11, a12, a13, a14, a15, a16, a17, a18, a19, a20, a21, a22, a23, a24, a25, a26, a27, a28, a29, a30, a31, a32, a33, a34, a35]) = w at hS hO
  have hidx := own_idx i0 (36 : Int32) (by decide)
  have hlt : ((i0 &&& (2147483647 : Int32)) % (36 : Int32)).toNatClampNeg < 36 := own_lt (by decide) hidx
  have hback : ((i0 &&& (2147483647 : Int32)) % (36 : Int32)).toNatClampNeg.toInt32 = ((i0 &&& (2147483647 : Int32)) % (36 : Int32)) := (back32 hidx.1).1
  by_cases c0 : ((i0 &&& (2147483647 : Int32)) % (36 : Int32)) = (32 : Int32)
  ·
    obtain ⟨n, o, h1, h2, h3, _, L, rfl, ⟨rfl, N⟩, hq⟩ := rm0_ttf l s _ hw tables_1 i0 w s.heap s.heap.size (Nat.le_refl _) (Old.start s) hS (if_pos (Or.inl (by rw [c0]; rfl))).symm c0 p e ha hc hk s m _ below hf ((Spec.applies_iff_loose hf).mp happ).1 ⟨rfl, State.Warmed39.refl s, rfl⟩ trivial
    refine ⟨n, _, h1, h2, h3, hpost _ _ _ _ _ _ ⟨Cond.after_iff.mpr rfl, Cond.after_iff.mpr (eq_i res_at (Term.int_eval (1)) rfl), trivial⟩ ⟨hq.1, hq.2.1, (hq.2.2.sift fun y hy => Or.inr (N y hy)).mono (by decide) (by decide)⟩⟩
  by_cases c1 : ((i0 &&& (2147483647 : Int32)) % (36 : Int32)) = (35 : Int32)
  ·
    obtain ⟨n, o, h1, h2, h3, _, L, rfl, ⟨rfl, N⟩, hq⟩ := rm0_fftf l s _ hw tables_1 i0 w s.heap s.heap.size (Nat.le_refl _) (Old.start s) hS (if_pos (Or.inr (by rw [c1]; rfl))).symm c0 c1 p e ha hc hk s m _ below hf ((Spec.applies_iff_loose hf).mp happ).1 ⟨rfl, State.Warmed39.refl s, rfl⟩ trivial
    refine ⟨n, _, h1, h2, h3, hpost _ _ _ _ _ _ ⟨Cond.after_iff.mpr rfl, Cond.after_iff.mpr (eq_i res_at (Term.int_eval (1)) rfl), trivial⟩ ⟨hq.1, hq.2.1, (hq.2.2.sift fun y hy => Or.inr (N y hy)).mono (by decide) (by decide)⟩⟩
  ·
    obtain ⟨n, o, h1, h2, h3, _, L, rfl, ⟨rfl, N⟩, hq⟩ := rm0_ftff l s _ hw tables_1 i0 w s.heap s.heap.size (Nat.le_refl _) (Old.start s) hS (if_neg (fun q => q.elim (fun q => c0 (hback.symm.trans (congrArg Nat.toInt32 (own_inj (by decide) hO hlt (by decide) q)))) (fun q => c1 (hback.symm.trans (congrArg Nat.toInt32 (own_inj (by decide) hO hlt (by decide) q)))))).symm c0 c1 p e ha hc hk s m _ below hf ((Spec.applies_iff_loose hf).mp happ).1 ⟨rfl, State.Warmed39.refl s, rfl⟩ trivial
    refine ⟨n, _, h1, h2, h3, hpost _ _ _ _ _ _ ⟨Cond.after_iff.mpr rfl, Cond.after_iff.mpr (eq_i res_at (Term.int_eval (1)) rfl), trivial⟩ ⟨hq.1, hq.2.1, (hq.2.2.sift fun y hy => Or.inr (N y hy)).mono (by decide) (by decide)⟩⟩
theorem main_1_1 : Claimed_1_1 := comes_1 fun _ _ _ _ _ _ h hF => ⟨h.1, hF⟩
theorem main_1_2 : Claimed_1_2 := comes_1 fun _ _ _ _ _ _ h hF => ⟨h.2.1, hF⟩
end Jvm.Pilot.@@N@@
namespace Jvm.Pilot.@@N@@
open Jvm Jvm.ClassFile Sem Op Lib Jvm.Free Jvm.Stand Jvm.Pilot.@@N@@.Jvm.D
/-! MADE BY PROGRAM (witnessworld.py) out of the Statement's table words and the real class files: 13 classes; the members and pool entries that the words name. The judged class is class 1, her method 1. -/
namespace start1
open Jvm.ClassFile
def u (s : String) : CpInfo := .utf8 (stringToUtf16 s)
/-- a pool by its gaps: so many unusable entries, then the entry; so many at the end -/
def gap : Nat → List CpInfo → List CpInfo
  | 0, r => r
  | n + 1, r => .unusable :: gap n r
def poolList (es : List (Nat × CpInfo)) (last : Nat) : List CpInfo := es.foldr (fun e r => gap e.1 (e.2 :: r)) (gap last [])
def pool (es : List (Nat × CpInfo)) (last : Nat) : Array CpInfo := ⟨poolList es last⟩
def fileOf (pool : Array CpInfo) (this : Nat) (attrs : Array Attribute := #[]) (ms : Array MethodInfo := #[]) (fl : Nat := 33) (sup : Nat := 0) (ifs : Array Nat := #[]) (fds : Array FieldInfo := #[]) : ClassFile where
  minorVersion := 0
  majorVersion := 65
  constantPool := pool
  accessFlags := fl
  thisClass := this
  superClass := sup
  interfaces := ifs
  fields := fds
  methods := ms
  attributes := attrs
def plain (name : String) (sup : Option ClassId) : Class where
  name := name
  kind := .ordinary
  loader := none
  accessFlags := 33
  super := sup
  interfaces := #[]
  cf := none
  fields := #[]
  methods := #[]
  instanceTypes := #[]
  staticTypes := #[]
  resolved := #[]
  callSites := []
  init := .initialized
  statics := none
  mirror := none

def pool0 : Array CpInfo := pool [(5, u "<init>"), (0, u "()V"), (1, .class_ 10), (1, u "java/lang/Object")] 113

def k0m0 : Method := { name := "<init>", desc := "()V", sig := { parameters := [], returnType := none }, accessFlags := 1, code := none }
/-- java/lang/Object -/
def k0 : Class := { plain "java/lang/Object" none with
  accessFlags := 33
  interfaces := #[]
  cf := some (fileOf pool0 8 #[] #[{ accessFlags := 1, nameIndex := 5, descriptorIndex := 6, attributes := #[] }] 33 0 #[] #[])
  fields := #[]
  methods := #[k0m0]
  instanceTypes := #[]
  staticTypes := #[]
  resolved := Array.replicate 124 none
  statics := none }

def pool1 : Array CpInfo := pool [(2, .class_ 4), (1, u "java/lang/Object"), (0, u "<init>"), (0, u "()V"), (0, .class_ 8), (0, u "com/example/solvent/solvent/vm/Opcode"), (0, .fieldref 7 10), (0, .nameAndType 11 12), (0, u "PUSH"), (0, u "Lcom/example/solvent/solvent/vm/Opcode;"), (0, .fieldref 7 14), (0, .nameAndType 15 12), (0, u "LOAD_GLOBAL"), (0, .fieldref 7 17), (0, .nameAndType 18 12), (0, u "STORE_GLOBAL"), (0, .fieldref 7 20), (0, .nameAndType 21 12), (0, u "LOAD_LOCAL"), (0, .fieldref 7 23), (0, .nameAndType 24 12), (0, u "STORE_LOCAL"), (0, .fieldref 7 26), (0, .nameAndType 27 12), (0, u "REF_GLOBAL"), (0, .fieldref 7 29), (0, .nameAndType 30 12), (0, u "REF_LOCAL"), (0, .fieldref 7 32), (0, .nameAndType 33 12), (0, u "LOAD_REF"), (0, .fieldref 7 35), (0, .nameAndType 36 12), (0, u "STORE_REF"), (0, .fieldref 7 38), (0, .nameAndType 39 12), (0, u "TAKE_GLOBAL"), (0, .fieldref 7 41), (0, .nameAndType 42 12), (0, u "TAKE_LOCAL"), (0, .fieldref 7 44), (0, .nameAndType 45 12), (0, u "POP"), (0, .fieldref 7 47), (0, .nameAndType 48 12), (0, u "NEGATE"), (0, .fieldref 7 50), (0, .nameAndType 51 12), (0, u "ADD"), (0, .fieldref 7 53), (0, .nameAndType 54 12), (0, u "SUBTRACT"), (0, .fieldref 7 56), (0, .nameAndType 57 12), (0, u "MULTIPLY"), (0, .fieldref 7 59), (0, .nameAndType 60 12), (0, u "DIVIDE"), (0, .fieldref 7 62), (0, .nameAndType 63 12), (0, u "LESS"), (0, .fieldref 7 65), (0, .nameAndType 66 12), (0, u "LESS_EQUAL"), (0, .fieldref 7 68), (0, .nameAndType 69 12), (0, u "GREATER"), (0, .fieldref 7 71), (0, .nameAndType 72 12), (0, u "GREATER_EQUAL"), (0, .fieldref 7 74), (0, .nameAndType 75 12), (0, u "EQUAL"), (0, .fieldref 7 77), (0, .nameAndType 78 12), (0, u "NOT_EQUAL"), (0, .fieldref 7 80), (0, .nameAndType 81 12), (0, u "NOT"), (0, .fieldref 7 83), (0, .nameAndType 84 12), (0, u "AND"), (0, .fieldref 7 86), (0, .nameAndType 87 12), (0, u "OR"), (0, .fieldref 7 89), (0, .nameAndType 90 12), (0, u "PRINT"), (0, .fieldref 7 92), (0, .nameAndType 93 12), (0, u "PRINT_BOOL"), (0, .fieldref 7 95), (0, .nameAndType 96 12), (0, u "ADD_AMOUNT"), (0, .fieldref 7 98), (0, .nameAndType 99 12), (0, u "CHECK_AMOUNT"), (0, .fieldref 7 101), (0, .nameAndType 102 12), (0, u "TRANSFER"), (0, .fieldref 7 104), (0, .nameAndType 105 12), (0, u "WALLET"), (0, .fieldref 7 107), (0, .nameAndType 108 12), (0, u "JUMP"), (0, .fieldref 7 110), (0, .nameAndType 111 12), (0, u "JUMP_IF_FALSE"), (0, .fieldref 7 113), (0, .nameAndType 114 12), (0, u "CALL"), (0, .fieldref 7 116), (0, .nameAndType 117 12), (0, u "RETURN"), (0, .integer 2147483647), (0, .methodref 7 120), (0, .nameAndType 121 122), (0, u "continues"), (0, u "()Z"), (0, .class_ 124), (0, u "com/example/solvent/solvent/vm/OpcodeContinuesPinLaw"), (2, u "law"), (0, u "(I)Z")] 5

def k1m0 : Method := { name := "<init>", desc := "()V", sig := { parameters := [], returnType := none }, accessFlags := 1, code := none }
def k1c1 : Code := { maxStack := 4, maxLocals := 5, code := code, exceptionTable := #[], attributes := #[] }
def k1m1 : Method := { name := "law", desc := "(I)Z", sig := { parameters := [.int], returnType := some .boolean }, accessFlags := 9, code := some k1c1 }
/-- com/example/solvent/solvent/vm/OpcodeContinuesPinLaw -/
def k1 : Class := { plain "com/example/solvent/solvent/vm/OpcodeContinuesPinLaw" (some 0) with
  accessFlags := 49
  interfaces := #[]
  cf := some (fileOf pool1 123 #[] #[{ accessFlags := 1, nameIndex := 5, descriptorIndex := 6, attributes := #[] }, { accessFlags := 9, nameIndex := 127, descriptorIndex := 128, attributes := #[] }] 49 2 #[] #[])
  fields := #[]
  methods := #[k1m0, k1m1]
  instanceTypes := #[]
  staticTypes := #[]
  resolved := Array.replicate 134 none
  statics := none }

def pool2 : Array CpInfo := pool [(1, .class_ 2), (0, u "java/lang/constant/Constable"), (0, .class_ 4), (0, u "java/lang/Object")] 6

/-- java/lang/constant/Constable -/
def k2 : Class := { plain "java/lang/constant/Constable" (some 0) with
  accessFlags := 1537
  interfaces := #[]
  cf := some (fileOf pool2 1 #[] #[] 1537 3 #[] #[])
  fields := #[]
  methods := #[]
  instanceTypes := #[]
  staticTypes := #[]
  resolved := Array.replicate 11 none
  statics := none }

def pool3 : Array CpInfo := pool [(1, .class_ 2), (0, u "java/lang/Comparable"), (0, .class_ 4), (0, u "java/lang/Object")] 7

/-- java/lang/Comparable -/
def k3 : Class := { plain "java/lang/Comparable" (some 0) with
  accessFlags := 1537
  interfaces := #[]
  cf := some (fileOf pool3 1 #[] #[] 1537 3 #[] #[])
  fields := #[]
  methods := #[]
  instanceTypes := #[]
  staticTypes := #[]
  resolved := Array.replicate 12 none
  statics := none }

def pool4 : Array CpInfo := pool [(1, .class_ 2), (0, u "java/io/Serializable"), (0, .class_ 4), (0, u "java/lang/Object")] 2

/-- java/io/Serializable -/
def k4 : Class := { plain "java/io/Serializable" (some 0) with
  accessFlags := 1537
  interfaces := #[]
  cf := some (fileOf pool4 1 #[] #[] 1537 3 #[] #[])
  fields := #[]
  methods := #[]
  instanceTypes := #[]
  staticTypes := #[]
  resolved := Array.replicate 7 none
  statics := none }

def pool5 : Array CpInfo := pool [(2, .class_ 4), (1, u "java/lang/Enum"), (0, u "name"), (0, u "Ljava/lang/String;"), (2, u "ordinal"), (0, u "I"), (1, .class_ 14), (1, u "java/lang/Object"), (4, u "hash"), (86, .class_ 108), (1, u "java/lang/Enum$EnumDesc"), (2, .class_ 112), (0, u "java/lang/constant/Constable"), (0, .class_ 114), (0, u "java/lang/Comparable"), (0, .class_ 116), (0, u "java/io/Serializable")] 87

/-- java/lang/Enum -/
def k5 : Class := { plain "java/lang/Enum" (some 0) with
  accessFlags := 1057
  interfaces := #[2, 3, 4]
  cf := some (fileOf pool5 2 #[.nestMembers #[106]] #[] 1057 12 #[111, 113, 115] #[{ accessFlags := 18, nameIndex := 5, descriptorIndex := 6, attributes := #[] }, { accessFlags := 18, nameIndex := 9, descriptorIndex := 10, attributes := #[] }, { accessFlags := 2, nameIndex := 19, descriptorIndex := 10, attributes := #[] }])
  fields := #[{ name := "name", type := (.object "java/lang/String"), accessFlags := 18, slot := 0, constantValue := 0 }, { name := "ordinal", type := .int, accessFlags := 18, slot := 1, constantValue := 0 }, { name := "hash", type := .int, accessFlags := 2, slot := 2, constantValue := 0 }]
  methods := #[]
  instanceTypes := #[(.object "java/lang/String"), .int, .int]
  staticTypes := #[]
  resolved := Array.replicate 204 none
  statics := none }

def pool6 : Array CpInfo := pool [(1, .class_ 2), (0, u "com/example/solvent/solvent/vm/Opcode"), (2, u "PUSH"), (0, u "Lcom/example/solvent/solvent/vm/Opcode;"), (2, u "LOAD_GLOBAL"), (2, u "STORE_GLOBAL"), (2, u "LOAD_LOCAL"), (2, u "STORE_LOCAL"), (2, u "REF_GLOBAL"), (2, u "REF_LOCAL"), (2, u "LOAD_REF"), (2, u "STORE_REF"), (2, u "TAKE_GLOBAL"), (2, u "TAKE_LOCAL"), (2, u "POP"), (2, u "NEGATE"), (2, u "ADD"), (2, u "SUBTRACT"), (2, u "MULTIPLY"), (2, u "DIVIDE"), (2, u "LESS"), (2, u "LESS_EQUAL"), (2, u "GREATER"), (2, u "GREATER_EQUAL"), (2, u "EQUAL"), (2, u "NOT_EQUAL"), (2, u "NOT"), (2, u "AND"), (2, u "OR"), (2, u "PRINT"), (2, u "PRINT_BOOL"), (2, u "ADD_AMOUNT"), (2, u "CHECK_AMOUNT"), (2, u "TRANSFER"), (2, u "WALLET"), (0, .fieldref 1 101), (0, .nameAndType 102 6), (0, u "JUMP"), (2, u "JUMP_IF_FALSE"), (2, u "CALL"), (0, .fieldref 1 110), (0, .nameAndType 111 6), (0, u "RETURN"), (2, u "$VALUES"), (0, u "[Lcom/example/solvent/solvent/vm/Opcode;"), (6, .class_ 124), (1, u "java/lang/Enum"), (8, u "mnemonic"), (0, u "Ljava/lang/String;"), (2, u "operand"), (0, u "Lcom/example/solvent/solvent/vm/Opcode$Operand;"), (2, u "pops"), (0, u "I"), (2, u "pushes"), (24, .class_ 172), (1, u "com/example/solvent/solvent/vm/Opcode$Operand"), (136, u "continues"), (0, u "()Z")] 12

def k6c0 : Code := { maxStack := 2, maxLocals := 1, code := prog_61_method_8_code, exceptionTable := #[], attributes := #[] }
def k6m0 : Method := { name := "continues", desc := "()Z", sig := { parameters := [], returnType := some .boolean }, accessFlags := 0, code := some k6c0 }
/-- com/example/solvent/solvent/vm/Opcode -/
def k6 : Class := { plain "com/example/solvent/solvent/vm/Opcode" (some 5) with
  accessFlags := 16433
  interfaces := #[]
  cf := some (fileOf pool6 1 #[.nestMembers #[170]] #[{ accessFlags := 0, nameIndex := 309, descriptorIndex := 310, attributes := #[] }] 16433 122 #[] #[{ accessFlags := 16409, nameIndex := 5, descriptorIndex := 6, attributes := #[] }, { accessFlags := 16409, nameIndex := 9, descriptorIndex := 6, attributes := #[] }, { accessFlags := 16409, nameIndex := 12, descriptorIndex := 6, attributes := #[] }, { accessFlags := 16409, nameIndex := 15, descriptorIndex := 6, attributes := #[] }, { accessFlags := 16409, nameIndex := 18, descriptorIndex := 6, attributes := #[] }, { accessFlags := 16409, nameIndex := 21, descriptorIndex := 6, attributes := #[] }, { accessFlags := 16409, nameIndex := 24, descriptorIndex := 6, attributes := #[] }, { accessFlags := 16409, nameIndex := 27, descriptorIndex := 6, attributes := #[] }, { accessFlags := 16409, nameIndex := 30, descriptorIndex := 6, attributes := #[] }, { accessFlags := 16409, nameIndex := 33, descriptorIndex := 6, attributes := #[] }, { accessFlags := 16409, nameIndex := 36, descriptorIndex := 6, attributes := #[] }, { accessFlags := 16409, nameIndex := 39, descriptorIndex := 6, attributes := #[] }, { accessFlags := 16409, nameIndex := 42, descriptorIndex := 6, attributes := #[] }, { accessFlags := 16409, nameIndex := 45, descriptorIndex := 6, attributes := #[] }, { accessFlags := 16409, nameIndex := 48, descriptorIndex := 6, attributes := #[] }, { accessFlags := 16409, nameIndex := 51, descriptorIndex := 6, attributes := #[] }, { accessFlags := 16409, nameIndex := 54, descriptorIndex := 6, attributes := #[] }, { accessFlags := 16409, nameIndex := 57, descriptorIndex := 6, attributes := #[] }, { accessFlags := 16409, nameIndex := 60, descriptorIndex := 6, attributes := #[] }, { accessFlags := 16409, nameIndex := 63, descriptorIndex := 6, attributes := #[] }, { accessFlags := 16409, nameIndex := 66, descriptorIndex := 6, attributes := #[] }, { accessFlags := 16409, nameIndex := 69, descriptorIndex := 6, attributes := #[] }, { accessFlags := 16409, nameIndex := 72, descriptorIndex := 6, attributes := #[] }, { accessFlags := 16409, nameIndex := 75, descriptorIndex := 6, attributes := #[] }, { accessFlags := 16409, nameIndex := 78, descriptorIndex := 6, attributes := #[] }, { accessFlags := 16409, nameIndex := 81, descriptorIndex := 6, attributes := #[] }, { accessFlags := 16409, nameIndex := 84, descriptorIndex := 6, attributes := #[] }, { accessFlags := 16409, nameIndex := 87, descriptorIndex := 6, attributes := #[] }, { accessFlags := 16409, nameIndex := 90, descriptorIndex := 6, attributes := #[] }, { accessFlags := 16409, nameIndex := 93, descriptorIndex := 6, attributes := #[] }, { accessFlags := 16409, nameIndex := 96, descriptorIndex := 6, attributes := #[] }, { accessFlags := 16409, nameIndex := 99, descriptorIndex := 6, attributes := #[] }, { accessFlags := 16409, nameIndex := 102, descriptorIndex := 6, attributes := #[] }, { accessFlags := 16409, nameIndex := 105, descriptorIndex := 6, attributes := #[] }, { accessFlags := 16409, nameIndex := 108, descriptorIndex := 6, attributes := #[] }, { accessFlags := 16409, nameIndex := 111, descriptorIndex := 6, attributes := #[] }, { accessFlags := 18, nameIndex := 133, descriptorIndex := 134, attributes := #[] }, { accessFlags := 18, nameIndex := 137, descriptorIndex := 138, attributes := #[] }, { accessFlags := 18, nameIndex := 141, descriptorIndex := 142, attributes := #[] }, { accessFlags := 18, nameIndex := 145, descriptorIndex := 142, attributes := #[] }, { accessFlags := 4122, nameIndex := 114, descriptorIndex := 115, attributes := #[] }])
  fields := #[{ name := "PUSH", type := (.object "com/example/solvent/solvent/vm/Opcode"), accessFlags := 16409, slot := 0, constantValue := 0 }, { name := "LOAD_GLOBAL", type := (.object "com/example/solvent/solvent/vm/Opcode"), accessFlags := 16409, slot := 1, constantValue := 0 }, { name := "STORE_GLOBAL", type := (.object "com/example/solvent/solvent/vm/Opcode"), accessFlags := 16409, slot := 2, constantValue := 0 }, { name := "LOAD_LOCAL", type := (.object "com/example/solvent/solvent/vm/Opcode"), accessFlags := 16409, slot := 3, constantValue := 0 }, { name := "STORE_LOCAL", type := (.object "com/example/solvent/solvent/vm/Opcode"), accessFlags := 16409, slot := 4, constantValue := 0 }, { name := "REF_GLOBAL", type := (.object "com/example/solvent/solvent/vm/Opcode"), accessFlags := 16409, slot := 5, constantValue := 0 }, { name := "REF_LOCAL", type := (.object "com/example/solvent/solvent/vm/Opcode"), accessFlags := 16409, slot := 6, constantValue := 0 }, { name := "LOAD_REF", type := (.object "com/example/solvent/solvent/vm/Opcode"), accessFlags := 16409, slot := 7, constantValue := 0 }, { name := "STORE_REF", type := (.object "com/example/solvent/solvent/vm/Opcode"), accessFlags := 16409, slot := 8, constantValue := 0 }, { name := "TAKE_GLOBAL", type := (.object "com/example/solvent/solvent/vm/Opcode"), accessFlags := 16409, slot := 9, constantValue := 0 }, { name := "TAKE_LOCAL", type := (.object "com/example/solvent/solvent/vm/Opcode"), accessFlags := 16409, slot := 10, constantValue := 0 }, { name := "POP", type := (.object "com/example/solvent/solvent/vm/Opcode"), accessFlags := 16409, slot := 11, constantValue := 0 }, { name := "NEGATE", type := (.object "com/example/solvent/solvent/vm/Opcode"), accessFlags := 16409, slot := 12, constantValue := 0 }, { name := "ADD", type := (.object "com/example/solvent/solvent/vm/Opcode"), accessFlags := 16409, slot := 13, constantValue := 0 }, { name := "SUBTRACT", type := (.object "com/example/solvent/solvent/vm/Opcode"), accessFlags := 16409, slot := 14, constantValue := 0 }, { name := "MULTIPLY", type := (.object "com/example/solvent/solvent/vm/Opcode"), accessFlags := 16409, slot := 15, constantValue := 0 }, { name := "DIVIDE", type := (.object "com/example/solvent/solvent/vm/Opcode"), accessFlags := 16409, slot := 16, constantValue := 0 }, { name := "LESS", type := (.object "com/example/solvent/solvent/vm/Opcode"), accessFlags := 16409, slot := 17, constantValue := 0 }, { name := "LESS_EQUAL", type := (.object "com/example/solvent/solvent/vm/Opcode"), accessFlags := 16409, slot := 18, constantValue := 0 }, { name := "GREATER", type := (.object "com/example/solvent/solvent/vm/Opcode"), accessFlags := 16409, slot := 19, constantValue := 0 }, { name := "GREATER_EQUAL", type := (.object "com/example/solvent/solvent/vm/Opcode"), accessFlags := 16409, slot := 20, constantValue := 0 }, { name := "EQUAL", type := (.object "com/example/solvent/solvent/vm/Opcode"), accessFlags := 16409, slot := 21, constantValue := 0 }, { name := "NOT_EQUAL", type := (.object "com/example/solvent/solvent/vm/Opcode"), accessFlags := 16409, slot := 22, constantValue := 0 }, { name := "NOT", type := (.object "com/example/solvent/solvent/vm/Opcode"), accessFlags := 16409, slot := 23, constantValue := 0 }, { name := "AND", type := (.object "com/example/solvent/solvent/vm/Opcode"), accessFlags := 16409, slot := 24, constantValue := 0 }, { name := "OR", type := (.object "com/example/solvent/solvent/vm/Opcode"), accessFlags := 16409, slot := 25, constantValue := 0 }, { name := "PRINT", type := (.object "com/example/solvent/solvent/vm/Opcode"), accessFlags := 16409, slot := 26, constantValue := 0 }, { name := "PRINT_BOOL", type := (.object "com/example/solvent/solvent/vm/Opcode"), accessFlags := 16409, slot := 27, constantValue := 0 }, { name := "ADD_AMOUNT", type := (.object "com/example/solvent/solvent/vm/Opcode"), accessFlags := 16409, slot := 28, constantValue := 0 }, { name := "CHECK_AMOUNT", type := (.object "com/example/solvent/solvent/vm/Opcode"), accessFlags := 16409, slot := 29, constantValue := 0 }, { name := "TRANSFER", type := (.object "com/example/solvent/solvent/vm/Opcode"), accessFlags := 16409, slot := 30, constantValue := 0 }, { name := "WALLET", type := (.object "com/example/solvent/solvent/vm/Opcode"), accessFlags := 16409, slot := 31, constantValue := 0 }, { name := "JUMP", type := (.object "com/example/solvent/solvent/vm/Opcode"), accessFlags := 16409, slot := 32, constantValue := 0 }, { name := "JUMP_IF_FALSE", type := (.object "com/example/solvent/solvent/vm/Opcode"), accessFlags := 16409, slot := 33, constantValue := 0 }, { name := "CALL", type := (.object "com/example/solvent/solvent/vm/Opcode"), accessFlags := 16409, slot := 34, constantValue := 0 }, { name := "RETURN", type := (.object "com/example/solvent/solvent/vm/Opcode"), accessFlags := 16409, slot := 35, constantValue := 0 }, { name := "mnemonic", type := (.object "java/lang/String"), accessFlags := 18, slot := 3, constantValue := 0 }, { name := "operand", type := (.object "com/example/solvent/solvent/vm/Opcode$Operand"), accessFlags := 18, slot := 4, constantValue := 0 }, { name := "pops", type := .int, accessFlags := 18, slot := 5, constantValue := 0 }, { name := "pushes", type := .int, accessFlags := 18, slot := 6, constantValue := 0 }, { name := "$VALUES", type := (.array (.object "com/example/solvent/solvent/vm/Opcode")), accessFlags := 4122, slot := 36, constantValue := 0 }]
  methods := #[k6m0]
  instanceTypes := #[(.object "java/lang/String"), .int, .int, (.object "java/lang/String"), (.object "com/example/solvent/solvent/vm/Opcode$Operand"), .int, .int]
  staticTypes := #[(.object "com/example/solvent/solvent/vm/Opcode"), (.object "com/example/solvent/solvent/vm/Opcode"), (.object "com/example/solvent/solvent/vm/Opcode"), (.object "com/example/solvent/solvent/vm/Opcode"), (.object "com/example/solvent/solvent/vm/Opcode"), (.object "com/example/solvent/solvent/vm/Opcode"), (.object "com/example/solvent/solvent/vm/Opcode"), (.object "com/example/solvent/solvent/vm/Opcode"), (.object "com/example/solvent/solvent/vm/Opcode"), (.object "com/example/solvent/solvent/vm/Opcode"), (.object "com/example/solvent/solvent/vm/Opcode"), (.object "com/example/solvent/solvent/vm/Opcode"), (.object "com/example/solvent/solvent/vm/Opcode"), (.object "com/example/solvent/solvent/vm/Opcode"), (.object "com/example/solvent/solvent/vm/Opcode"), (.object "com/example/solvent/solvent/vm/Opcode"), (.object "com/example/solvent/solvent/vm/Opcode"), (.object "com/example/solvent/solvent/vm/Opcode"), (.object "com/example/solvent/solvent/vm/Opcode"), (.object "com/example/solvent/solvent/vm/Opcode"), (.object "com/example/solvent/solvent/vm/Opcode"), (.object "com/example/solvent/solvent/vm/Opcode"), (.object "com/example/solvent/solvent/vm/Opcode"), (.object "com/example/solvent/solvent/vm/Opcode"), (.object "com/example/solvent/solvent/vm/Opcode"), (.object "com/example/solvent/solvent/vm/Opcode"), (.object "com/example/solvent/solvent/vm/Opcode"), (.object "com/example/solvent/solvent/vm/Opcode"), (.object "com/example/solvent/solvent/vm/Opcode"), (.object "com/example/solvent/solvent/vm/Opcode"), (.object "com/example/solvent/solvent/vm/Opcode"), (.object "com/example/solvent/solvent/vm/Opcode"), (.object "com/example/solvent/solvent/vm/Opcode"), (.object "com/example/solvent/solvent/vm/Opcode"), (.object "com/example/solvent/solvent/vm/Opcode"), (.object "com/example/solvent/solvent/vm/Opcode"), (.array (.object "com/example/solvent/solvent/vm/Opcode"))]
  resolved := Array.replicate 323 none
  statics := some 0 }

def pool7 : Array CpInfo := pool [(1, u "java/lang/Cloneable"), (0, .class_ 1), (0, u "java/lang/Object"), (0, .class_ 3)] 3

/-- java/lang/Cloneable -/
def k7 : Class := { plain "java/lang/Cloneable" (some 0) with
  accessFlags := 1537
  interfaces := #[]
  cf := some (fileOf pool7 2 #[] #[] 1537 4 #[] #[])
  fields := #[]
  methods := #[]
  instanceTypes := #[]
  staticTypes := #[]
  resolved := Array.replicate 8 none
  statics := none }

/-- the primitive byte -/
def k8 : Class := { plain "byte" none with kind := .primitive 'B', accessFlags := 0x411 }
/-- [B -/
def k9 : Class := { plain "[B" (some 0) with kind := .array 8 .byte, interfaces := #[7, 4], accessFlags := 1041 }

/-- the primitive int -/
def k10 : Class := { plain "int" none with kind := .primitive 'I', accessFlags := 0x411 }
/-- [I -/
def k11 : Class := { plain "[I" (some 0) with kind := .array 10 .int, interfaces := #[7, 4], accessFlags := 1041 }

/-- [Lcom/example/solvent/solvent/vm/Opcode; -/
def k12 : Class := { plain "[Lcom/example/solvent/solvent/vm/Opcode;" (some 0) with kind := .array 6 (.object "com/example/solvent/solvent/vm/Opcode"), interfaces := #[7, 4], accessFlags := 1041 }

def heap : Heap := #[{ cls := 6, slots := #[.ref 1, .ref 2, .ref 3, .ref 4, .ref 5, .ref 6, .ref 7, .ref 8, .ref 9, .ref 10, .ref 11, .ref 12, .ref 13, .ref 14, .ref 15, .ref 16, .ref 17, .ref 18, .ref 19, .ref 20, .ref 21, .ref 22, .ref 23, .ref 24, .ref 25, .ref 26, .ref 27, .ref 28, .ref 29, .ref 30, .ref 31, .ref 32, .ref 33, .ref 34, .ref 35, .ref 36, .null], vm := .statics 6 },
  { cls := 6, slots := #[.null, .int 0, .int 0, .null, .null, .int 0, .int 0], vm := .none },
  { cls := 6, slots := #[.null, .int 1, .int 0, .null, .null, .int 0, .int 0], vm := .none },
  { cls := 6, slots := #[.null, .int 2, .int 0, .null, .null, .int 0, .int 0], vm := .none },
  { cls := 6, slots := #[.null, .int 3, .int 0, .null, .null, .int 0, .int 0], vm := .none },
  { cls := 6, slots := #[.null, .int 4, .int 0, .null, .null, .int 0, .int 0], vm := .none },
  { cls := 6, slots := #[.null, .int 5, .int 0, .null, .null, .int 0, .int 0], vm := .none },
  { cls := 6, slots := #[.null, .int 6, .int 0, .null, .null, .int 0, .int 0], vm := .none },
  { cls := 6, slots := #[.null, .int 7, .int 0, .null, .null, .int 0, .int 0], vm := .none },
  { cls := 6, slots := #[.null, .int 8, .int 0, .null, .null, .int 0, .int 0], vm := .none },
  { cls := 6, slots := #[.null, .int 9, .int 0, .null, .null, .int 0, .int 0], vm := .none },
  { cls := 6, slots := #[.null, .int 10, .int 0, .null, .null, .int 0, .int 0], vm := .none },
  { cls := 6, slots := #[.null, .int 11, .int 0, .null, .null, .int 0, .int 0], vm := .none },
  { cls := 6, slots := #[.null, .int 12, .int 0, .null, .null, .int 0, .int 0], vm := .none },
  { cls := 6, slots := #[.null, .int 13, .int 0, .null, .null, .int 0, .int 0], vm := .none },
  { cls := 6, slots := #[.null, .int 14, .int 0, .null, .null, .int 0, .int 0], vm := .none },
  { cls := 6, slots := #[.null, .int 15, .int 0, .null, .null, .int 0, .int 0], vm := .none },
  { cls := 6, slots := #[.null, .int 16, .int 0, .null, .null, .int 0, .int 0], vm := .none },
  { cls := 6, slots := #[.null, .int 17, .int 0, .null, .null, .int 0, .int 0], vm := .none },
  { cls := 6, slots := #[.null, .int 18, .int 0, .null, .null, .int 0, .int 0], vm := .none },
  { cls := 6, slots := #[.null, .int 19, .int 0, .null, .null, .int 0, .int 0], vm := .none },
  { cls := 6, slots := #[.null, .int 20, .int 0, .null, .null, .int 0, .int 0], vm := .none },
  { cls := 6, slots := #[.null, .int 21, .int 0, .null, .null, .int 0, .int 0], vm := .none },
  { cls := 6, slots := #[.null, .int 22, .int 0, .null, .null, .int 0, .int 0], vm := .none },
  { cls := 6, slots := #[.null, .int 23, .int 0, .null, .null, .int 0, .int 0], vm := .none },
  { cls := 6, slots := #[.null, .int 24, .int 0, .null, .null, .int 0, .int 0], vm := .none },
  { cls := 6, slots := #[.null, .int 25, .int 0, .null, .null, .int 0, .int 0], vm := .none },
  { cls := 6, slots := #[.null, .int 26, .int 0, .null, .null, .int 0, .int 0], vm := .none },
  { cls := 6, slots := #[.null, .int 27, .int 0, .null, .null, .int 0, .int 0], vm := .none },
  { cls := 6, slots := #[.null, .int 28, .int 0, .null, .null, .int 0, .int 0], vm := .none },
  { cls := 6, slots := #[.null, .int 29, .int 0, .null, .null, .int 0, .int 0], vm := .none },
  { cls := 6, slots := #[.null, .int 30, .int 0, .null, .null, .int 0, .int 0], vm := .none },
  { cls := 6, slots := #[.null, .int 31, .int 0, .null, .null, .int 0, .int 0], vm := .none },
  { cls := 6, slots := #[.null, .int 32, .int 0, .null, .null, .int 0, .int 0], vm := .none },
  { cls := 6, slots := #[.null, .int 33, .int 0, .null, .null, .int 0, .int 0], vm := .none },
  { cls := 6, slots := #[.null, .int 34, .int 0, .null, .null, .int 0, .int 0], vm := .none },
  { cls := 6, slots := #[.null, .int 35, .int 0, .null, .null, .int 0, .int 0], vm := .none }]
def classes : Array Class := #[k0, k1, k2, k3, k4, k5, k6, k7, k8, k9, k10, k11, k12]
def interned : List (Array UInt16 × Addr) := []
def slotsUsed : Nat := 289
def theMethod : MethodId := ⟨1, 1⟩
def args0 : Array Value := #[.int 5]
def aboutOver (below : List Frame) : State where
  vm := { classes := classes, interned := interned.toArray }
  heap := heap
  slotsUsed := slotsUsed
  threads := #[{ frames := .invoking theMethod args0 :: below }]
def below0 : List Frame := [.native { method := ⟨0, 0⟩, args := #[] }]
def about1 : State := aboutOver below0
def p0 : Program := .bare "" "" ""
def e0 : Env := launch0.env 0 0 0
theorem w_frames : about1.frames = Frame.invoking theMethod args0 :: below0 := rfl
set_option maxRecDepth 65536 in
theorem w_args : argsFit about1.vm theMethod args0 = true := by decide +kernel
set_option maxRecDepth 65536 in
theorem w_heap : heapFits about1 = true := by decide +kernel
set_option maxRecDepth 65536 in
theorem w_runnable : about1.curStatus? = some .runnable := by decide +kernel
set_option maxRecDepth 65536 in
theorem w_alone : about1.alone = true := by decide +kernel
set_option maxRecDepth 65536 in
theorem w_named : about1.methodNamed? x = some theMethod := by decide +kernel
set_option maxRecDepth 65536 in
theorem w_hears : about1.hears theMethod below0 = true := by decide +kernel
set_option maxRecDepth 65536 in
theorem w_ripe : about1.ripe theMethod args0 below0 = true := by decide +kernel
theorem w_running : about1.status = .running := rfl
set_option maxRecDepth 65536 in
theorem w_room : about1.hasRoom e0.platform room_1 = true :=
  launch0.hasRoom_least _ room_1 (by decide +kernel) (by decide +kernel) (by decide +kernel) (by decide +kernel) (by decide +kernel) (by decide +kernel)
theorem allAtoms_all (ts : List Jvm.Cond) (a : Array Jvm.Value) (st : Jvm.State) : (allAtoms ts).before a st = ts.all (fun c => c.before a st) := by
  induction ts with
  | nil => rfl
  | cons c t ih =>
    show (Jvm.Cond.and c (allAtoms t)).before a st = _
    rw [Jvm.Cond.before_and, ih, List.all_cons]
def words1 : List Jvm.Cond := Jvm.Cond.code x code maxLocals ret :: tables_1
/-- a 'code' word, met by the world's own term for the bytes: nothing is compared byte by byte -/
theorem code_word {y : MethodName} {bytes : ByteArray} {mx : Nat} {rt : Option FieldType} {a : Array Value} {s : State} {m : MethodId} {meth : Method} {c : Code} (h1 : s.methodNamed? y = some m) (h2 : s.vm.method? m = some meth) (h3 : meth.code = some c) (h4 : c.code = bytes)
    (h5 : (c.maxLocals == mx && c.exceptionTable.isEmpty && decide (c.maxStack ≤ mostOperands) && decide (meth.sig.returnType = rt) && !meth.locks && decide (parseMethodDescriptor y.desc = some meth.sig)) = true) : (Jvm.Cond.code y bytes mx rt).before a s = true := by
  simp only [Bool.and_eq_true, beq_iff_eq, Bool.not_eq_true', decide_eq_true_eq] at h5
  obtain ⟨⟨⟨⟨⟨g1, g2⟩, g3⟩, g4⟩, g5⟩, g6⟩ := h5
  simp [Cond.before, Cond.holds, Cond.value, h1, h2, h3, h4, g1, g2, g3, g4, g5, g6]
def isCode : Jvm.Cond → Bool
  | .code _ _ _ _ => true
  | _ => false
theorem all_split {L : List Jvm.Cond} {P : Jvm.Cond → Bool} (h1 : L.all (fun c => isCode c || P c) = true) (h2 : ∀ c ∈ L.filter isCode, P c = true) : L.all P = true := by
  refine List.all_eq_true.mpr fun c hc => ?_
  have h := List.all_eq_true.mp h1 c hc
  rcases Bool.eq_false_or_eq_true (isCode c) with hi | hi
  · exact h2 c (List.mem_filter.mpr ⟨hc, hi⟩)
  · simpa [hi] using h
set_option maxRecDepth 65536 in
theorem w_c0 : (Jvm.Cond.code x code maxLocals ret).before args0 about1 = true := code_word (m := ⟨1, 1⟩) (meth := k1m1) (c := k1c1) (by decide +kernel) rfl rfl rfl (by decide +kernel)
set_option maxRecDepth 65536 in
theorem w_c1 : (Jvm.Cond.code ({ cls := "com/example/solvent/solvent/vm/Opcode", name := "continues", desc := "()Z" } : Jvm.MethodName) prog_61_method_8_code (1 : Nat) (Option.some Jvm.ClassFile.FieldType.boolean)).before args0 about1 = true := code_word (m := ⟨6, 0⟩) (meth := k6m0) (c := k6c0) (by decide +kernel) rfl rfl rfl (by decide +kernel)
def codes1 : List Jvm.Cond := [Jvm.Cond.code x code maxLocals ret, Jvm.Cond.code ({ cls := "com/example/solvent/solvent/vm/Opcode", name := "continues", desc := "()Z" } : Jvm.MethodName) prog_61_method_8_code (1 : Nat) (Option.some Jvm.ClassFile.FieldType.boolean)]
set_option maxRecDepth 65536 in
theorem codes_eq : words1.filter isCode = codes1 := rfl
theorem w_codes : ∀ c ∈ words1.filter isCode, c.before args0 about1 = true := by
  rw [codes_eq]
  intro c hc
  simp only [codes1, List.mem_cons, List.not_mem_nil, or_false] at hc
  rcases hc with rfl | rfl
  · exact w_c0
  · exact w_c1
set_option maxRecDepth 65536 in
theorem w_t1 : (words1.take 24).all (fun c => isCode c || c.before args0 about1) = true := by decide +kernel
set_option maxRecDepth 65536 in
theorem w_t2 : ((words1.drop 24).take 24).all (fun c => isCode c || c.before args0 about1) = true := by decide +kernel
set_option maxRecDepth 65536 in
theorem w_t3 : (((words1.drop 24).drop 24).take 24).all (fun c => isCode c || c.before args0 about1) = true := by decide +kernel
set_option maxRecDepth 65536 in
theorem w_t4 : (((words1.drop 24).drop 24).drop 24).all (fun c => isCode c || c.before args0 about1) = true := by decide +kernel
theorem w_tables : (allAtoms (Jvm.Cond.code x code maxLocals ret :: tables_1)).before args0 about1 = true := by
  rw [allAtoms_all]
  show words1.all (fun c => c.before args0 about1) = true
  refine all_split ?_ w_codes
  rw [← List.take_append_drop 24 words1, List.all_append, w_t1, ← List.take_append_drop 24 (words1.drop 24), List.all_append, w_t2, ← List.take_append_drop 24 ((words1.drop 24).drop 24), List.all_append, w_t3, w_t4]
  rfl
set_option maxRecDepth 65536 in
theorem w_case : (Jvm.Cond.and given_1 narrow_1).before args0 about1 = true := by decide +kernel
theorem w_applies : (headSpec (Jvm.Cond.code x code maxLocals ret :: tables_1) room_1).applies x e0.platform about1 = true :=
  (Spec.applies_iff w_frames).mpr ⟨w_running, w_runnable, w_alone, w_named, w_hears, w_ripe, w_room, w_tables⟩
theorem atStart : AtStart classFile x code maxLocals ret World_1 tables_1 room_1 Calls_1 rest_1 Pre_1 launch0 p0 e0 about1 theMethod args0 below0 :=
  ⟨lists_1, trivial, launch0.admits_env _ _ _, launch0.least_env, fairChoices_fair.cas, fairChoices_fair.clock, w_frames, w_args, w_heap, w_applies, trivial, trivial, w_case⟩
end start1
theorem witness_1 : WitnessClaimed_1 := ⟨start1.p0, start1.e0, start1.about1, start1.theMethod, start1.args0, start1.below0, start1.atStart⟩
end Jvm.Pilot.@@N@@
