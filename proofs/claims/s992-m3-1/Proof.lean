import JvmDerived
import JvmDerived.Pilot.@@N@@Statement
import JvmDerived.Pilot.@@N@@Code
set_option linter.unusedVariables false
set_option linter.unusedSimpArgs false
namespace Jvm.RoadKit
open Sem ClassFile Op Lib Jvm.Stand Jvm.Free Jvm.LawKit
section New
variable {p : Program} {l : Launch} {e : Env} {R : Room} {s : State} {m : MethodId} {args : Array Value} {below : List Frame} {meth : Method} {c : Code} {T : State} {locs : List Loc} {cells slots : Nat}
theorem retI (X : Stand p l e R s m args below meth c T locs cells slots) (hx : p.tables.exec = Jvm.exec) {pc : Nat} {Ls : Array Slot} {z : Int32} {rest : List Value} (hret : meth.sig.returnType = some .int) (hd : decode c.code pc = .ok (.ireturn, 1)) {fs : List Frame}
    (hl : ∀ (f : JFrame) (acts : List Action), f.method = m → f.locked = none → f.entered = [] → (doReturn e (T.setTop f) acts (some (.int z))).1 = T.setFrames fs) : Steps p.tables e below (T.setTop (mkF m pc Ls (.int z :: rest))) (T.setFrames fs) := by
  have hm' : T.vm.method? m = some meth := X.method'
  have hn : narrow .int (.int z) = .int z := rfl
  show Steps p.tables e below (T.setTop { method := m, pc := pc, locals := Ls, stack := _ :: rest, locked := none }) _
  jvm_step X.here [X.here.top, hx, hd, hm', hret, hn]
  first | (intro acts; rw [hl _ acts rfl rfl rfl]) | rw [hl _ _ rfl rfl rfl]
  exact Steps.refl _
end New
/-! the walk's own frame: a goal that is met by going on -/
section Own
variable {tb : Tables} {e : Env} {below : List Frame} {R : State → Outcome → Prop} {U U' T : State}
def own_G (tb : Tables) (e : Env) (below : List Frame) (R : State → Outcome → Prop) (U : State) : Prop := ∃ f o, Steps tb e below U f ∧ R f o
theorem own_pre {g g' : JFrame} (q : g = g') (h : own_G tb e below R (T.setTop g')) : ∃ f o, Steps tb e below (T.setTop g) f ∧ R f o := by rw [q]; exact h
theorem own_go (st : ∀ t, Steps tb e below U' t → Steps tb e below U t) (h : own_G tb e below R U') : own_G tb e below R U := by
  obtain ⟨f, o, h1, h2⟩ := h; exact ⟨f, o, st _ h1, h2⟩
theorem own_out (h : ∃ f o, Steps tb e below U f ∧ R f o) : own_G tb e below R U := h
end Own
section OwnFacts
variable {Z : State} {h h' : Heap} {a : Addr} {ws : List Addr} {C n d : String} {v : Value} {b : Bool}
def own_NS (h : Heap) (a : Addr) : Prop := ∃ c : Cell, h[a]? = some c ∧ c.vm.isStatics = false
theorem own_nsE (F : Exa Z h a C) : own_NS h a := by obtain ⟨c, k, h1, -, -, h4, -⟩ := F; exact ⟨c, h1, h4⟩
theorem own_nsF (F : Fld Z h a C n d v) : own_NS h a := by obtain ⟨c, _, _, _, _, h1, -, -, -, h5, -⟩ := F; exact ⟨c, h1, h5⟩
theorem own_nsV {k : ClassId} {ty : FieldType} {z : Int32} {vs : List Value} {dv : Value} (F : Arv Z h a k ty z vs dv) : own_NS h a := by obtain ⟨c, A, -⟩ := F; exact ⟨c, A.1, A.plain⟩
theorem own_staK (F : Sta Z h C n d v) (K : Keep h h' ws) (q : ∀ x ∈ ws, own_NS h x) : Sta Z h' C n d v := by
  obtain ⟨cf, i, k, f, st, cell, h1, h2, h3, h4, h5, h6, h7⟩ := F
  refine ⟨cf, i, k, f, st, cell, h1, h2, h3, h4, K.2.1 st cell h5 (fun hm => ?_), h6, h7⟩
  obtain ⟨c, e1, e2⟩ := q st hm
  cases h5.symm.trans e1
  rw [e2] at h6; cases h6
theorem own_insK (F : Ins Z h a C b) (K : Keep h h' ws) : Ins Z h' a C b := by
  obtain ⟨cell, cT, h1, h2, h3⟩ := F
  obtain ⟨c', e1, e2, e3, -⟩ := K.2.2 a cell h1
  exact ⟨c', cT, e1, h2, by rw [e2, e3]; exact h3⟩
theorem own_selP {s : State} {args : Array Value} {y : MethodName} {k : Nat} (wi : (Cond.instantiable y.cls k).before args s = true) (wp : (Cond.privateMethod y).before args s = true) (hi : (Cond.instanceMethod y).before args s = true) (hy : y.cls ≠ "java/lang/invoke/MethodHandle" ∧ y.cls ≠ "java/lang/invoke/VarHandle") : (Cond.selects y.cls y y).before args s = true := by
  obtain ⟨c, k, h1, h2, -, h4, -⟩ := Cond.instantiable_spec wi
  exact selects_self_of_private h1 h2 (by simp only [Bool.or_eq_false_iff] at h4; exact h4.1) (Cond.privateMethod_at wp) hi hy
theorem own_xnJ (x : Int64) : (x ^^^ (-1 : Int64)).toInt = -1 - x.toInt := by
  have h : x ^^^ (-1 : Int64) = ~~~ x := by
    rw [← Int64.toBitVec_inj]; simp
  rw [h]
  show (~~~ x.toBitVec).toInt = -1 - x.toBitVec.toInt
  rw [BitVec.toInt_not]
  have h1 := x.toBitVec.isLt
  rw [BitVec.toInt_eq_toNat_bmod]
  simp only [Int.bmod]
  split <;> split <;> omega
theorem own_at {h h' : Heap} {a : Addr} {c : Cell} (e : h' = h) (g : h[a]? = some c) : h'[a]? = some c := by rw [e]; exact g
theorem own_insLt (F : Ins Z h a C b) : a < h.size := by obtain ⟨_, _, h1, -⟩ := F; exact (Array.getElem?_eq_some_iff.mp h1).1
variable {args : Array Value} {t u : Term} {x : Addr}
theorem own_fldI {k : Int32} (ev : t.eval args Z none [] Z = some (.ref x)) (hh : (Cond.eq (.field t C n d) (.int k)).value args Z none Z [] = some true) : Fld Z Z.heap x C n d (.int k) := by
  refine Fld.start ?_
  obtain ⟨y, w, e1, e2, k1, -⟩ := cmp_v (Or.inl hh)
  cases (Term.int_eval k).symm.trans e2
  rw [fld_at ev] at e1
  cases y <;> simp [Kin, Value.isRef] at k1
  rename_i q
  have e3 : (Term.field t C n d).eval args Z none [] Z = some (.int q) := by rw [fld_at ev]; exact e1
  simp [Cond.value, e3, Term.int_eval] at hh
  rw [e1, hh]
theorem own_fldJ {k : Int64} (ev : t.eval args Z none [] Z = some (.ref x)) (hh : (Cond.eq (.field t C n d) (.long k)).value args Z none Z [] = some true) : Fld Z Z.heap x C n d (.long k) := by
  refine Fld.start ?_
  obtain ⟨y, w, e1, e2, k1, -⟩ := cmp_v (Or.inl hh)
  cases (long_at k).symm.trans e2
  rw [fld_at ev] at e1
  cases y <;> simp [Kin, Value.isRef] at k1
  rename_i q
  have e3 : (Term.field t C n d).eval args Z none [] Z = some (.long q) := by rw [fld_at ev]; exact e1
  have e4 := gotT (eq_L e3 (long_at k)) hh
  rw [e1, e4]
theorem own_fldR {y : Addr} (ev : t.eval args Z none [] Z = some (.ref x)) (e2 : (Term.field t C n d).eval args Z none [] Z = some (.ref y)) : Fld Z Z.heap x C n d (.ref y) := Fld.start (by rw [← fld_at ev]; exact e2)
theorem own_len {cl : Cell} {ty : FieldType} {k : Int32} (ev : t.eval args Z none [] Z = some (.ref x)) (A : Arr Z Z.heap x cl ty) (hh : (Cond.eq (.length t) (.int k)).value args Z none Z [] = some true) : cl.slots.size < 2 ^ 31 ∧ cl.slots.size.toInt32 = k := by
  obtain ⟨y, w, e1, e2, k1, -⟩ := cmp_v (Or.inl hh)
  cases (Term.int_eval k).symm.trans e2
  have hA := A.fin (Vm.Alike.refl _)
  have hl : cl.slots.size < 2 ^ 31 := by
    rcases Nat.lt_or_ge cl.slots.size (2 ^ 31) with q | q
    · exact q
    · simp [Term.eval, ev, hA, Nat.not_lt.mpr q] at e1
  refine ⟨hl, ?_⟩
  have e3 := len_f ev hA hl
  simp [Cond.value, e3, Term.int_eval] at hh
  exact hh
theorem own_elI {cl : Cell} {ty : FieldType} {i k : Int32} (ev : t.eval args Z none [] Z = some (.ref x)) (A : Arr Z Z.heap x cl ty) (hh : (Cond.eq (.elem t (.int i)) (.int k)).value args Z none Z [] = some true) : cl.slots[i.toNatClampNeg]? = some (.int k) := by
  obtain ⟨y, w, e1, e2, k1, -⟩ := cmp_v (Or.inl hh)
  cases (Term.int_eval k).symm.trans e2
  cases y <;> simp [Kin, Value.isRef] at k1
  rename_i q
  simp [Cond.value, e1, Term.int_eval] at hh
  rw [← hh]; exact (elem_in e1 ev (Term.int_eval i) A.1).2
theorem own_elR {cl : Cell} {ty : FieldType} {i : Int32} {y : Addr} (ev : t.eval args Z none [] Z = some (.ref x)) (eu : u.eval args Z none [] Z = some (.ref y)) (A : Arr Z Z.heap x cl ty) (hh : (Cond.eq (.elem t (.int i)) u).value args Z none Z [] = some true) : cl.slots[i.toNatClampNeg]? = some (.ref y) := by
  obtain ⟨p, w, e1, e3, k1, k2⟩ := cmp_v (Or.inl hh)
  cases eu.symm.trans e3
  have k3 := gotT (eq_R e1 eu k2.2 rfl) hh
  rw [← k3]; exact (elem_in e1 ev (Term.int_eval i) A.1).2
theorem own_eqR {y : Addr} (e2 : u.eval args Z none [] Z = some (.ref y)) (hh : (Cond.eq t u).value args Z none Z [] = some true) : t.eval args Z none [] Z = some (.ref y) := by
  obtain ⟨p, w, e1, e3, k1, k2⟩ := cmp_v (Or.inl hh)
  cases e2.symm.trans e3
  have k3 := gotT (eq_R e1 e2 k2.2 rfl) hh
  rw [e1, k3]
end OwnFacts
/-- the cache of Longs: old objects, each with its number -/
def own_LC (Z : State) (h : Heap) (a : Addr) (n : Nat) : Prop := ∃ cl : Cell, Arr Z h a cl (.object "java/lang/Long") ∧ cl.slots.size = (256 : Int32).toNatClampNeg ∧ a < n ∧ ∀ j : Int32, ¬ j < 0 → j < 256 → ∃ b : Addr, cl.slots[j.toNatClampNeg]? = some (.ref b) ∧ b < n ∧ Exa Z h b "java/lang/Long" ∧ Fld Z h b "java/lang/Long" "value" "J" (.long (j - 128).toInt64)
theorem own_LC.keep {Z : State} {h h' : Heap} {a : Addr} {n : Nat} {ws : List Addr} (F : own_LC Z h a n) (K : Keep h h' ws) (q : ∀ x ∈ ws, n ≤ x) : own_LC Z h' a n := by
  obtain ⟨cl, A, S, ha, M⟩ := F
  refine ⟨cl, ⟨K.2.1 a cl A.1 (fun hm => absurd ha (Nat.not_lt.mpr (q a hm))), A.2⟩, S, ha, fun j h0 h1 => ?_⟩
  obtain ⟨b, h2, h3, E, F⟩ := M j h0 h1
  exact ⟨b, h2, h3, E.keep K, F.keep K (fun hm => absurd h3 (Nat.not_lt.mpr (q b hm)))⟩
theorem own_LC.ext {Z : State} {h h' : Heap} {a : Addr} {n : Nat} (F : own_LC Z h a n) (E : Ext h h') : own_LC Z h' a n := F.keep ((Keep.refl h []).ext E) all0
theorem own_LC.start {Z : State} {args : Array Value} {C n d : String} {x : Addr} (ev : (Term.static C n d).eval args Z none [] Z = some (.ref x)) (hA : (Cond.arrayOf (.static C n d) (.object "java/lang/Long")).value args Z none Z [] = some true) (hL : (Cond.eq (.length (.static C n d)) (.int 256)).value args Z none Z [] = some true)
    (hall : (Cond.all (.static C n d) (.and (.exactly (.elem (.static C n d) (.index 0)) "java/lang/Long") (.eq (.field (.elem (.static C n d) (.index 0)) "java/lang/Long" "value" "J") (.op1 .i2l (.sub (.index 0) (.int 128)))))).value args Z none Z [] = some true) : own_LC Z Z.heap x Z.heap.size := by
  obtain ⟨cl, A⟩ := Arr.start ev hA
  have L := own_len ev A hL
  have hsz : cl.slots.size = 256 := by
    have h1 := congrArg Int32.toInt L.2
    have h2 : (cl.slots.size.toInt32).toInt = (cl.slots.size : Int) := by
      have := L.1
      exact Int32.toInt_ofNat_of_lt this
    have h3 : (256 : Int32).toInt = 256 := by decide
    omega
  have hat := A.fin (Vm.Alike.refl _)
  refine ⟨cl, A, by rw [hsz]; decide, (Array.getElem?_eq_some_iff.mp A.1).1, fun j h0 h1 => ?_⟩
  have j0 : 0 ≤ j.toInt := by
    have := fun q => h0 (Int32.lt_iff_toInt_lt.mpr q)
    simp at this; exact this
  have j1 : j.toInt < 256 := by
    have := Int32.lt_iff_toInt_lt.mp h1
    simpa using this
  have hj : j.toNatClampNeg = j.toInt.toNat := rfl
  have hm : j.toNatClampNeg < cl.slots.size := by rw [hsz, hj]; omega
  have hj3 : j.toNatClampNeg.toInt32 = j := by
    apply Int32.toInt_inj.mp
    have q : j.toNatClampNeg < 2 ^ 31 := by rw [hj]; omega
    rw [show j.toNatClampNeg.toInt32 = Int32.ofNat j.toNatClampNeg from rfl, Int32.toInt_ofNat_of_lt q, hj]; omega
  have hx := Cond.all_elim ev hat hall _ hm
  have ev' : (Term.static C n d).eval args Z none [j.toNatClampNeg] Z = some (.ref x) := by simpa only [Term.eval] using ev
  have hi : (Term.index 0).eval args Z none [j.toNatClampNeg] Z = some (.int j) := by simp [Term.eval, hj3]
  simp only [Cond.value] at hx
  split at hx
  · rename_i hex
    split at hex
    · rename_i b c0 eb ec
      have hb := (elem_in eb ev' hi A.1).2
      have E : Exa Z Z.heap b "java/lang/Long" := Exa.start (args := #[.ref b]) (t := .arg 0) rfl (by
        simp only [Cond.value, Term.eval]; simpa [ec] using hex)
      refine ⟨b, hb, ?_, E, ?_⟩
      · obtain ⟨c1, k1, h1, -⟩ := E
        exact (Array.getElem?_eq_some_iff.mp h1).1
      · refine Fld.start ?_
        have e2 : (Term.op1 .i2l (.sub (.index 0) (.int 128))).eval args Z none [j.toNatClampNeg] Z = some (.long (j - 128).toInt64) := by
          simp [Term.eval, hj3, Unary.apply]
        rw [e2, fld_at eb] at hx
        cases hv : Z.fieldOf? b "java/lang/Long" "value" "J" with
        | none => simp [hv] at hx
        | some v => cases v <;> simp [hv] at hx ⊢ ; exact hx
    · simp at hex
    · simp at hex
  · rename_i hne; exact absurd hx (hne)
theorem own_lcq {q : Int64} (h1 : ¬ q < (-128 : Int64)) (h2 : ¬ (127 : Int64) < q) : (q.toInt32 + (128 : Int32) - 128).toInt64 = q := by
  have a1 : ¬ q.toInt < -128 := fun e => h1 (Int64.lt_iff_toInt_lt.mpr e)
  have a2 : ¬ 127 < q.toInt := fun e => h2 (Int64.lt_iff_toInt_lt.mpr e)
  refine Int64.toInt_inj.mp ?_
  rw [c_i2l]
  have b1 := c_isub (q.toInt32 + (128 : Int32)) 128; have b2 := c_iadd q.toInt32 128; have b3 := c_l2i q
  have e1 : (128 : Int32).toInt = 128 := by decide
  have r1 := rng32 q.toInt32; have r2 := rng32 (q.toInt32 + (128 : Int32)); have r3 := rng32 (q.toInt32 + (128 : Int32) - 128)
  omega
section OwnLong
open Jvm.Free.XT
variable {x y : Int64}
theorem own_ll_eq_t (h : x = y) : ifCond.holds .eq (lcmpW x y) = true := ll_eq_t h
theorem own_ll_eq_f (h : ¬ x = y) : ifCond.holds .eq (lcmpW x y) = false := ll_eq_f h
theorem own_ll_ne_t (h : ¬ x = y) : ifCond.holds .ne (lcmpW x y) = true := ll_ne_t h
theorem own_ll_ne_f (h : x = y) : ifCond.holds .ne (lcmpW x y) = false := ll_ne_f h
theorem own_ll_lt_t (h : x < y) : ifCond.holds .lt (lcmpW x y) = true := ll_lt_t h
theorem own_ll_lt_f (h : ¬ x < y) : ifCond.holds .lt (lcmpW x y) = false := ll_lt_f h
theorem own_ll_ge_t (h : ¬ x < y) : ifCond.holds .ge (lcmpW x y) = true := ll_ge_t h
theorem own_ll_ge_f (h : x < y) : ifCond.holds .ge (lcmpW x y) = false := ll_ge_f h
theorem own_ll_gt_t (h : y < x) : ifCond.holds .gt (lcmpW x y) = true := ll_gt_t h
theorem own_ll_gt_f (h : ¬ y < x) : ifCond.holds .gt (lcmpW x y) = false := ll_gt_f h
theorem own_ll_le_t (h : ¬ y < x) : ifCond.holds .le (lcmpW x y) = true := ll_le_t h
theorem own_ll_le_f (h : y < x) : ifCond.holds .le (lcmpW x y) = false := ll_le_f h
end OwnLong
section OwnSteps
variable {p : Program} {l : Launch} {e : Env} {R : Room} {s : State} {m : MethodId} {args : Array Value} {below : List Frame} {meth : Method} {c : Code} {T : State} {locs : List Loc} {cells slots : Nat} {bytes : ByteArray} {pc : Nat} {L : Array Slot} {S : List Value} {t : State}

theorem oiload (X : Stand p l e R s m args below meth c T locs cells slots) (hx : p.tables.exec = Jvm.exec) (hby : c.code = bytes) {k : Nat} {v : Int32} (hd : decode bytes pc = .ok (.iload k, 2)) (hl : L[k]? = some (.val (.int v))) (hr : Steps p.tables e below (T.setTop (mkF m (pc + 2) L (.int v :: S))) t) : Steps p.tables e below (T.setTop (mkF m pc L S)) t := XS.iload X.here hx rfl (hb hby hd) hl hr
theorem oiloadN (X : Stand p l e R s m args below meth c T locs cells slots) (hx : p.tables.exec = Jvm.exec) (hby : c.code = bytes) {k : Fin 4} {v : Int32} (hd : decode bytes pc = .ok (.iload_n k, 1)) (hl : L[k.val]? = some (.val (.int v))) (hr : Steps p.tables e below (T.setTop (mkF m (pc + 1) L (.int v :: S))) t) : Steps p.tables e below (T.setTop (mkF m pc L S)) t := XS.iloadN X.here hx rfl (hb hby hd) hl hr
theorem oaload (X : Stand p l e R s m args below meth c T locs cells slots) (hx : p.tables.exec = Jvm.exec) (hby : c.code = bytes) {k : Nat} {v : Value} (hd : decode bytes pc = .ok (.aload k, 2)) (hl : L[k]? = some (.val v)) (hv : v.isRef = true) (hr : Steps p.tables e below (T.setTop (mkF m (pc + 2) L (v :: S))) t) : Steps p.tables e below (T.setTop (mkF m pc L S)) t := XS.aload X.here hx rfl (hb hby hd) hl hv hr
theorem oaloadN (X : Stand p l e R s m args below meth c T locs cells slots) (hx : p.tables.exec = Jvm.exec) (hby : c.code = bytes) {k : Fin 4} {v : Value} (hd : decode bytes pc = .ok (.aload_n k, 1)) (hl : L[k.val]? = some (.val v)) (hv : v.isRef = true) (hr : Steps p.tables e below (T.setTop (mkF m (pc + 1) L (v :: S))) t) : Steps p.tables e below (T.setTop (mkF m pc L S)) t := XS.aloadN X.here hx rfl (hb hby hd) hl hv hr
theorem oistore (X : Stand p l e R s m args below meth c T locs cells slots) (hx : p.tables.exec = Jvm.exec) (hby : c.code = bytes) {k : Nat} {x : Int32} (hd : decode bytes pc = .ok (.istore k, 2)) (l' : Array Slot) (hl : storeLocals L k (.int x) = some l') (hr : Steps p.tables e below (T.setTop (mkF m (pc + 2) l' S)) t) : Steps p.tables e below (T.setTop (mkF m pc L (.int x :: S))) t := XS.istore X.here hx rfl (hb hby hd) rfl hl hr
theorem oastore (X : Stand p l e R s m args below meth c T locs cells slots) (hx : p.tables.exec = Jvm.exec) (hby : c.code = bytes) {k : Nat} {x : Value} (hd : decode bytes pc = .ok (.astore k, 2)) (l' : Array Slot) (hv : x.isRef = true) (hl : storeLocals L k x = some l') (hr : Steps p.tables e below (T.setTop (mkF m (pc + 2) l' S)) t) : Steps p.tables e below (T.setTop (mkF m pc L (x :: S))) t := XS.astore X.here hx rfl (hb hby hd) rfl hv hl hr
theorem oiconst (X : Stand p l e R s m args below meth c T locs cells slots) (hx : p.tables.exec = Jvm.exec) (hby : c.code = bytes) {i : Int} (hd : decode bytes pc = .ok (.iconst i, 1)) (hr : Steps p.tables e below (T.setTop (mkF m (pc + 1) L (.int (Int32.ofInt i) :: S))) t) : Steps p.tables e below (T.setTop (mkF m pc L S)) t := XS.iconst X.here hx rfl (hb hby hd) hr
theorem obipush (X : Stand p l e R s m args below meth c T locs cells slots) (hx : p.tables.exec = Jvm.exec) (hby : c.code = bytes) {i : Int} (hd : decode bytes pc = .ok (.bipush i, 2)) (hr : Steps p.tables e below (T.setTop (mkF m (pc + 2) L (.int (Int8.ofInt i).toInt32 :: S))) t) : Steps p.tables e below (T.setTop (mkF m pc L S)) t := XS.bipush X.here hx rfl (hb hby hd) hr
theorem oiadd (X : Stand p l e R s m args below meth c T locs cells slots) (hx : p.tables.exec = Jvm.exec) (hby : c.code = bytes) {x y : Int32} (hd : decode bytes pc = .ok (.iadd, 1)) (hr : Steps p.tables e below (T.setTop (mkF m (pc + 1) L (.int (x + y) :: S))) t) : Steps p.tables e below (T.setTop (mkF m pc L (.int y :: .int x :: S))) t := XS.iadd X.here hx rfl (hb hby hd) rfl hr
theorem oiand (X : Stand p l e R s m args below meth c T locs cells slots) (hx : p.tables.exec = Jvm.exec) (hby : c.code = bytes) {x y : Int32} (hd : decode bytes pc = .ok (.iand, 1)) (hr : Steps p.tables e below (T.setTop (mkF m (pc + 1) L (.int (x &&& y) :: S))) t) : Steps p.tables e below (T.setTop (mkF m pc L (.int y :: .int x :: S))) t := XS.iand X.here hx rfl (hb hby hd) rfl hr
theorem odup (X : Stand p l e R s m args below meth c T locs cells slots) (hx : p.tables.exec = Jvm.exec) (hby : c.code = bytes) {x : Value} (hd : decode bytes pc = .ok (.dup, 1)) (hc : x.category = 1) (hr : Steps p.tables e below (T.setTop (mkF m (pc + 1) L (x :: x :: S))) t) : Steps p.tables e below (T.setTop (mkF m pc L (x :: S))) t := XS.dup X.here hx rfl (hb hby hd) rfl hc hr
theorem odup2 (X : Stand p l e R s m args below meth c T locs cells slots) (hx : p.tables.exec = Jvm.exec) (hby : c.code = bytes) {x y : Value} (hd : decode bytes pc = .ok (.dup2, 1)) (hc : x.category = 1) (hc' : y.category = 1) (hr : Steps p.tables e below (T.setTop (mkF m (pc + 1) L (x :: y :: x :: y :: S))) t) : Steps p.tables e below (T.setTop (mkF m pc L (x :: y :: S))) t := Jvm.Free.XT.dup2 X.here hx rfl (hb hby hd) rfl hc hc' hr
theorem ogoto (X : Stand p l e R s m args below meth c T locs cells slots) (hx : p.tables.exec = Jvm.exec) (hby : c.code = bytes) {o : Int} (hd : decode bytes pc = .ok (.goto o, 3)) (pc' : Nat) (hp : 0 ≤ (pc : Int) + o ∧ ((pc : Int) + o).toNat = pc') (hr : Steps p.tables e below (T.setTop (mkF m pc' L S)) t) : Steps p.tables e below (T.setTop (mkF m pc L S)) t := XS.goto X.here hx rfl rfl (hb hby hd) hp.1 hp.2 hr
theorem oifY (X : Stand p l e R s m args below meth c T locs cells slots) (hx : p.tables.exec = Jvm.exec) (hby : c.code = bytes) {cd : ClassFile.Cond} {x : Int32} {o : Int} (hd : decode bytes pc = .ok (.ifCond cd o, 3)) (pc' : Nat) (hc : ifCond.holds cd x = true) (hp : 0 ≤ (pc : Int) + o ∧ ((pc : Int) + o).toNat = pc') (hr : Steps p.tables e below (T.setTop (mkF m pc' L S)) t) : Steps p.tables e below (T.setTop (mkF m pc L (.int x :: S))) t := XS.ifYes X.here hx rfl rfl (hb hby hd) rfl hc hp.1 hp.2 hr
theorem oifN (X : Stand p l e R s m args below meth c T locs cells slots) (hx : p.tables.exec = Jvm.exec) (hby : c.code = bytes) {cd : ClassFile.Cond} {x : Int32} {o : Int} (hd : decode bytes pc = .ok (.ifCond cd o, 3)) (hc : ifCond.holds cd x = false) (hr : Steps p.tables e below (T.setTop (mkF m (pc + 3) L S)) t) : Steps p.tables e below (T.setTop (mkF m pc L (.int x :: S))) t := XS.ifNo X.here hx rfl (hb hby hd) rfl hc hr
theorem oicY (X : Stand p l e R s m args below meth c T locs cells slots) (hx : p.tables.exec = Jvm.exec) (hby : c.code = bytes) {cd : ClassFile.Cond} {x y : Int32} {o : Int} (hd : decode bytes pc = .ok (.if_icmp cd o, 3)) (pc' : Nat) (hc : if_icmp.holds cd x y = true) (hp : 0 ≤ (pc : Int) + o ∧ ((pc : Int) + o).toNat = pc') (hr : Steps p.tables e below (T.setTop (mkF m pc' L S)) t) : Steps p.tables e below (T.setTop (mkF m pc L (.int y :: .int x :: S))) t := XS.icmpYes X.here hx rfl rfl (hb hby hd) rfl hc hp.1 hp.2 hr
theorem oicN (X : Stand p l e R s m args below meth c T locs cells slots) (hx : p.tables.exec = Jvm.exec) (hby : c.code = bytes) {cd : ClassFile.Cond} {x y : Int32} {o : Int} (hd : decode bytes pc = .ok (.if_icmp cd o, 3)) (hc : if_icmp.holds cd x y = false) (hr : Steps p.tables e below (T.setTop (mkF m (pc + 3) L S)) t) : Steps p.tables e below (T.setTop (mkF m pc L (.int y :: .int x :: S))) t := XS.icmpNo X.here hx rfl (hb hby hd) rfl hc hr
end OwnSteps
section OwnCalls
variable {p : Program} {l : Launch} {e : Env} {R : Room} {s : State} {m : MethodId} {args : Array Value} {below : List Frame} {meth : Method} {c : Code} {T : State} {locs : List Loc} {cells slots : Nat} {Z : State} {a0 : Array Value} {h : Heap} {bytes : ByteArray}
theorem ocallS (X : Stand p l e R s m args below meth c T locs cells slots) (hx : p.tables.exec = Jvm.exec) (hZ : Z.Warmed39 s.vm) {cb : ByteArray} {maxL : Nat} {ret : Option FieldType} {rm : Room} {Q : Option Value → Heap → List Loc → Prop} {argsL rest : List Value} {index : Nat} {own : String} (y : MethodName) (hown : s.vm.findClass own = some m.cls) (w1 : (Cond.methodLink own index y).before a0 Z = true) (w2 : (Cond.static y).before a0 Z = true) (hy : y.cls ≠ "java/lang/invoke/MethodHandle" ∧ y.cls ≠ "java/lang/invoke/VarHandle") (w5 : (Cond.code y cb maxL ret).before a0 Z = true) (w6 : (Cond.initialized y.cls).before a0 Z = true) (eT : T.heap = h) (hM : MetFree l y (head1 [Cond.code y cb maxL ret] rm) (fun a U => a = argsL.toArray ∧ Z.Warmed39 U.vm ∧ U.heap = h) (fun _ _ _ _ _ => True) (fun _ U o U' => ∃ v L, o = .returned v ∧ Q v U'.heap L ∧ FrameEnd U o U' L rm.cells rm.slots)) {st : List Value} (hst : st = argsL.reverse ++ rest) (W : Nat) (hW : (rest.map fun v => v.category).sum = W) (hroom : rm.frames + 1 ≤ R.frames ∧ W + (maxL + 11) + rm.locals ≤ R.locals ∧ cells + rm.cells ≤ R.cells ∧ slots + rm.slots ≤ R.slots) {pc : Nat} {Ls : Array Slot} {nl : Nat} (hml : c.maxLocals = nl) (hsz : Ls.size = nl) (hlen : ∀ sig, parseMethodDescriptor y.desc = some sig → argsL.length = sig.parameters.length) (hd : decode bytes pc = .ok (.invokestatic index, 3)) (hby : c.code = bytes) : ∃ v T' L, Stand p l e R s m args below meth c T' (locs ++ L) (cells + rm.cells) (slots + rm.slots) ∧ Q v T'.heap L ∧ ∀ t, Steps p.tables e below (T'.setTop (mkF m (pc + 3) Ls (v.toList ++ rest))) t → Steps p.tables e below (T.setTop (mkF m pc Ls st)) t := by
  subst hst
  obtain ⟨_, _, ⟨T1, L1, k1, n1⟩, -, X1, ⟨Lc1, hQ1, l1, y1, z1⟩, st1⟩ := Jvm.LawKit.callS X hx hown (mvT hZ w1) (mvT hZ w2) (mvT hZ w6) (mvT hZ w5) hy (backOf (W := W) hM hZ w5 w6 hroom.1 hroom.2.1) (g := mkF m pc Ls (argsL.reverse ++ rest)) rfl (hsz.trans hml.symm) (argsL := argsL) (rest := rest) hlen rfl (by show 2 * 0 + _ ≤ _; rw [Nat.mul_zero, Nat.zero_add]; exact Nat.le_of_eq hW) (hb hby hd) (fun _ _ => ⟨rfl, eT, hroom.2.2.1, hroom.2.2.2⟩)
  dsimp only [Pt.U, Pt.locs, Pt.cells, Pt.slots] at X1 l1 y1 z1 st1 hQ1
  subst l1 y1 z1
  exact ⟨_, _, _, X1, hQ1, st1⟩
theorem ocallI (X : Stand p l e R s m args below meth c T locs cells slots) (hx : p.tables.exec = Jvm.exec) (hZ : Z.Warmed39 s.vm) {cb : ByteArray} {maxL : Nat} {rm : Room} {Q : Option Value → Heap → List Loc → Prop} {argsL rest : List Value} {index : Nat} {own : String} (y : MethodName) (hn : y.name = "<init>") (hown : s.vm.findClass own = some m.cls) (w1 : (Cond.methodLink own index y).before a0 Z = true) (w2 : (Cond.instanceMethod y).before a0 Z = true) (hy : y.cls ≠ "java/lang/invoke/MethodHandle" ∧ y.cls ≠ "java/lang/invoke/VarHandle") (w5 : (Cond.code y cb maxL none).before a0 Z = true) (w6 : (Cond.initialized y.cls).before a0 Z = true) (eT : T.heap = h) {b : Addr} (hM : MetFree l y (head1 [Cond.code y cb maxL none] rm) (fun a U => a = (.ref b :: argsL).toArray ∧ Z.Warmed39 U.vm ∧ U.heap = h) (fun _ _ _ _ _ => True) (fun _ U o U' => ∃ v L, o = .returned v ∧ Q v U'.heap L ∧ FrameEnd U o U' L rm.cells rm.slots)) {st : List Value} (hst : st = argsL.reverse ++ .ref b :: rest) (W : Nat) (hW : (rest.map fun v => v.category).sum = W) (hroom : rm.frames + 1 ≤ R.frames ∧ W + (maxL + 11) + rm.locals ≤ R.locals ∧ cells + rm.cells ≤ R.cells ∧ slots + rm.slots ≤ R.slots) {pc : Nat} {Ls : Array Slot} {nl : Nat} (hml : c.maxLocals = nl) (hsz : Ls.size = nl) (hlen : ∀ sig, parseMethodDescriptor y.desc = some sig → argsL.length = sig.parameters.length) (hd : decode bytes pc = .ok (.invokespecial index, 3)) (hby : c.code = bytes) : ∃ v T' L, Stand p l e R s m args below meth c T' (locs ++ L) (cells + rm.cells) (slots + rm.slots) ∧ Q v T'.heap L ∧ ∀ t, Steps p.tables e below (T'.setTop (mkF m (pc + 3) Ls (v.toList ++ rest))) t → Steps p.tables e below (T.setTop (mkF m pc Ls st)) t := by
  subst hst
  obtain ⟨_, _, ⟨T1, L1, k1, n1⟩, -, X1, ⟨Lc1, hQ1, l1, y1, z1⟩, st1⟩ := X.specialBack hx hn hown (mvT hZ w1) (mvT hZ w2) (mvT hZ w5) hy (backOf (W := W) hM hZ w5 w6 hroom.1 hroom.2.1) (g := mkF m pc Ls (argsL.reverse ++ .ref b :: rest)) rfl (hsz.trans hml.symm) (Steps.refl _) (a := b) (argsL := argsL) (rest := rest) hlen rfl (by show 2 * 0 + _ ≤ _; rw [Nat.mul_zero, Nat.zero_add]; exact Nat.le_of_eq hW) (hb hby hd) (fun _ _ => ⟨rfl, eT, hroom.2.2.1, hroom.2.2.2⟩)
  dsimp only [Pt.U, Pt.locs, Pt.cells, Pt.slots] at X1 l1 y1 z1 st1 hQ1
  subst l1 y1 z1
  exact ⟨_, _, _, X1, hQ1, fun _ k => st1.trans k⟩
theorem ocallV (X : Stand p l e R s m args below meth c T locs cells slots) (hx : p.tables.exec = Jvm.exec) (hZ : Z.Warmed39 s.vm) {cb : ByteArray} {maxL : Nat} {ret : Option FieldType} {rm : Room} {Q : Option Value → Heap → List Loc → Prop} {argsL rest : List Value} {index : Nat} {own : String} {C : String} (y z : MethodName) (hown : s.vm.findClass own = some m.cls) (w1 : (Cond.methodLink own index y).before a0 Z = true) (w2 : (Cond.declares y).before a0 Z = true) (nf : NotFace s y) (w4 : (Cond.selects C y z).before a0 Z = true) (w3 : (Cond.instanceMethod z).before a0 Z = true) (hy : y.cls ≠ "java/lang/invoke/MethodHandle" ∧ y.cls ≠ "java/lang/invoke/VarHandle") (w5 : (Cond.code z cb maxL ret).before a0 Z = true) (w6 : (Cond.initialized z.cls).before a0 Z = true) (eT : T.heap = h) {b : Addr} (E : Exa Z h b C) (hM : MetFree l z (head1 [Cond.code z cb maxL ret] rm) (fun a U => a = (.ref b :: argsL).toArray ∧ Z.Warmed39 U.vm ∧ U.heap = h) (fun _ _ _ _ _ => True) (fun _ U o U' => ∃ v L, o = .returned v ∧ Q v U'.heap L ∧ FrameEnd U o U' L rm.cells rm.slots)) {st : List Value} (hst : st = argsL.reverse ++ .ref b :: rest) (W : Nat) (hW : (rest.map fun v => v.category).sum = W) (hroom : rm.frames + 1 ≤ R.frames ∧ W + (maxL + 11) + rm.locals ≤ R.locals ∧ cells + rm.cells ≤ R.cells ∧ slots + rm.slots ≤ R.slots) {pc : Nat} {Ls : Array Slot} {nl : Nat} (hml : c.maxLocals = nl) (hsz : Ls.size = nl) (hlen : ∀ sig, parseMethodDescriptor y.desc = some sig → argsL.length = sig.parameters.length) (hd : decode bytes pc = .ok (.invokevirtual index, 3)) (hby : c.code = bytes) : ∃ v T' L, Stand p l e R s m args below meth c T' (locs ++ L) (cells + rm.cells) (slots + rm.slots) ∧ Q v T'.heap L ∧ ∀ t, Steps p.tables e below (T'.setTop (mkF m (pc + 3) Ls (v.toList ++ rest))) t → Steps p.tables e below (T.setTop (mkF m pc Ls st)) t := by
  subst hst
  obtain ⟨cq, kq, qa, qb, qc⟩ := isOf hZ eT E
  obtain ⟨_, _, ⟨T1, L1, k1, n1⟩, -, X1, ⟨Lc1, hQ1, l1, y1, z1⟩, st1⟩ := X.virtualBack hx hown (mvT hZ w1) (mvT hZ w2) nf (mvT hZ w4) (mvT hZ w3) hy (backOf (W := W) hM hZ w5 w6 hroom.1 hroom.2.1) qa qc (g := mkF m pc Ls (argsL.reverse ++ .ref b :: rest)) rfl (hsz.trans hml.symm) (Steps.refl _) (argsL := argsL) (rest := rest) hlen rfl (by show 2 * 0 + _ ≤ _; rw [Nat.mul_zero, Nat.zero_add]; exact Nat.le_of_eq hW) (hb hby hd) (fun _ _ => ⟨rfl, eT, hroom.2.2.1, hroom.2.2.2⟩)
  dsimp only [Pt.U, Pt.locs, Pt.cells, Pt.slots] at X1 l1 y1 z1 st1 hQ1
  subst l1 y1 z1
  exact ⟨_, _, _, X1, hQ1, fun _ k => st1.trans k⟩
theorem ocallU (X : Stand p l e R s m args below meth c T locs cells slots) (hx : p.tables.exec = Jvm.exec) (hZ : Z.Warmed39 s.vm) {cb : ByteArray} {maxL : Nat} {ret : Option FieldType} {rm : Room} {Q : Option Value → Heap → List Loc → Prop} {argsL rest : List Value} {index : Nat} {own : String} {C owner : String} (x y : MethodName) (hown : s.vm.findClass own = some m.cls) (w1 : (Cond.methodLink own index x).before a0 Z = true) (w2 : (Cond.sameMethod x.cls owner x.name x.desc).before a0 Z = true) (w7 : (Cond.declares ⟨owner, x.name, x.desc⟩).before a0 Z = true) (hy : owner ≠ "java/lang/invoke/MethodHandle" ∧ owner ≠ "java/lang/invoke/VarHandle") (w4 : (Cond.selects C x y).before a0 Z = true) (w3 : (Cond.instanceMethod y).before a0 Z = true) (w5 : (Cond.code y cb maxL ret).before a0 Z = true) (w6 : (Cond.initialized y.cls).before a0 Z = true) (eT : T.heap = h) {b : Addr} (E : Exa Z h b C) (hM : MetFree l y (head1 [Cond.code y cb maxL ret] rm) (fun a U => a = (.ref b :: argsL).toArray ∧ Z.Warmed39 U.vm ∧ U.heap = h) (fun _ _ _ _ _ => True) (fun _ U o U' => ∃ v L, o = .returned v ∧ Q v U'.heap L ∧ FrameEnd U o U' L rm.cells rm.slots)) {st : List Value} (hst : st = argsL.reverse ++ .ref b :: rest) (W : Nat) (hW : (rest.map fun v => v.category).sum = W) (hroom : rm.frames + 1 ≤ R.frames ∧ W + (maxL + 11) + rm.locals ≤ R.locals ∧ cells + rm.cells ≤ R.cells ∧ slots + rm.slots ≤ R.slots) {pc : Nat} {Ls : Array Slot} {nl : Nat} (hml : c.maxLocals = nl) (hsz : Ls.size = nl) (hlen : ∀ sig, parseMethodDescriptor x.desc = some sig → argsL.length = sig.parameters.length) (hd : decode bytes pc = .ok (.invokevirtual index, 3)) (hby : c.code = bytes) : ∃ v T' L, Stand p l e R s m args below meth c T' (locs ++ L) (cells + rm.cells) (slots + rm.slots) ∧ Q v T'.heap L ∧ ∀ t, Steps p.tables e below (T'.setTop (mkF m (pc + 3) Ls (v.toList ++ rest))) t → Steps p.tables e below (T.setTop (mkF m pc Ls st)) t := by
  subst hst
  obtain ⟨cq, kq, qa, qb, qc⟩ := isOf hZ eT E
  obtain ⟨_, _, ⟨T1, L1, k1, n1⟩, -, X1, ⟨Lc1, hQ1, l1, y1, z1⟩, st1⟩ := X.virtualBackUp hx hown (mvT hZ w1) (mvT hZ w2) (mvT hZ w7) hy (mvT hZ w4) (mvT hZ w3) (backOf (W := W) hM hZ w5 w6 hroom.1 hroom.2.1) qa qc (g := mkF m pc Ls (argsL.reverse ++ .ref b :: rest)) rfl (hsz.trans hml.symm) (Steps.refl _) (argsL := argsL) (rest := rest) hlen rfl (by show 2 * 0 + _ ≤ _; rw [Nat.mul_zero, Nat.zero_add]; exact Nat.le_of_eq hW) (hb hby hd) (fun _ _ => ⟨rfl, eT, hroom.2.2.1, hroom.2.2.2⟩)
  dsimp only [Pt.U, Pt.locs, Pt.cells, Pt.slots] at X1 l1 y1 z1 st1 hQ1
  subst l1 y1 z1
  exact ⟨_, _, _, X1, hQ1, fun _ k => st1.trans k⟩
end OwnCalls
end Jvm.RoadKit
namespace Jvm.Pilot.@@N@@
open Jvm Jvm.ClassFile Sem Op Lib Jvm.Free Jvm.Stand Jvm.LawKit Jvm.RoadKit Bundle Jvm.Pilot.@@N@@.Jvm.D
theorem ww {Z : State} {a0 : Array Value} (hw : ∀ d ∈ tables_1, d.before a0 Z = true) (i : Nat) {d : Jvm.Cond} (h : tables_1[i]? = some d) : d.before a0 Z = true := hw d (List.mem_of_getElem? h)
def QLaw (n0 : Nat) (v : Option Value) (h : Heap) (L : List Loc) : Prop := v = some (.int (1 : Int32)) ∧ Fr n0 L

def own_pick (k : Int32) (w0 w1 w2 w3 w4 w5 w6 w7 : Addr) : Addr := if k = (0 : Int32) then w0 else if k = (1 : Int32) then w1 else if k = (2 : Int32) then w2 else if k = (3 : Int32) then w3 else if k = (4 : Int32) then w4 else if k = (5 : Int32) then w5 else if k = (6 : Int32) then w6 else w7
theorem own_pick_E {Z : State} {h : Heap} {C : String} {k : Int32} {w0 w1 w2 w3 w4 w5 w6 w7 : Addr} (E0 : Exa Z h w0 C) (E1 : Exa Z h w1 C) (E2 : Exa Z h w2 C) (E3 : Exa Z h w3 C) (E4 : Exa Z h w4 C) (E5 : Exa Z h w5 C) (E6 : Exa Z h w6 C) (E7 : Exa Z h w7 C) : Exa Z h (own_pick k w0 w1 w2 w3 w4 w5 w6 w7) C := by
  unfold own_pick
  repeat' split
  all_goals assumption
theorem own_pick_O {Z : State} {h : Heap} {C n d : String} {k : Int32} {w0 w1 w2 w3 w4 w5 w6 w7 : Addr} (F0 : Fld Z h w0 C n d (.int 0)) (F1 : Fld Z h w1 C n d (.int 1)) (F2 : Fld Z h w2 C n d (.int 2)) (F3 : Fld Z h w3 C n d (.int 3)) (F4 : Fld Z h w4 C n d (.int 4)) (F5 : Fld Z h w5 C n d (.int 5)) (F6 : Fld Z h w6 C n d (.int 6)) (F7 : Fld Z h w7 C n d (.int 7)) (h0 : ¬ k < 0) (h1 : k < 8) : Fld Z h (own_pick k w0 w1 w2 w3 w4 w5 w6 w7) C n d (.int k) := by
  have g0 : 0 ≤ k.toInt := by
    have := Int32.not_lt.mp h0
    rw [Int32.le_iff_toInt_le] at this; exact this
  have g1 : k.toInt < 8 := Int32.lt_iff_toInt_lt.mp h1
  have hk : k.toInt = 0 ∨ k.toInt = 1 ∨ k.toInt = 2 ∨ k.toInt = 3 ∨ k.toInt = 4 ∨ k.toInt = 5 ∨ k.toInt = 6 ∨ k.toInt = 7 := by omega
  have hk' : k = (0 : Int32) ∨ k = (1 : Int32) ∨ k = (2 : Int32) ∨ k = (3 : Int32) ∨ k = (4 : Int32) ∨ k = (5 : Int32) ∨ k = (6 : Int32) ∨ k = (7 : Int32) := by
    rcases hk with h | h | h | h | h | h | h | h <;> simp [← Int32.toInt_inj, h]
  rcases hk' with rfl | rfl | rfl | rfl | rfl | rfl | rfl | rfl <;> (unfold own_pick; simp; assumption)
theorem own_r2 (t : Int32) (h0 : 0 ≤ t.toInt) (h1 : t.toInt < 2) : t = (0 : Int32) ∨ t = (1 : Int32) := by
  have h : t.toInt = 0 ∨ t.toInt = 1 := by omega
  rcases h with h | h <;> simp [← Int32.toInt_inj, h]
theorem own_s2 (x : Int32) : x &&& (1 : Int32) = (0 : Int32) ∨ x &&& (1 : Int32) = (1 : Int32) := own_r2 _ (c_and x 1 (by decide)).1 (by have h := (c_and x 1 (by decide)).2; have e : (1 : Int32).toInt = 1 := (by decide); omega)
abbrev lc0 (x0 x1 x2 x3 x4 : Int32) : Array Slot := #[.val (.int x0), .val (.int x1), .val (.int x2), .val (.int x3), .val (.int x4), .unset, .unset, .unset, .unset, .unset, .unset, .unset, .unset, .unset, .unset, .unset]
abbrev lc1 (x0 x1 x2 x3 x4 x5 : Int32) : Array Slot := #[.val (.int x0), .val (.int x1), .val (.int x2), .val (.int x3), .val (.int x4), .val (.int x5), .unset, .unset, .unset, .unset, .unset, .unset, .unset, .unset, .unset, .unset]
abbrev lc2 (x0 x1 x2 x3 x4 x5 x6 : Int32) : Array Slot := #[.val (.int x0), .val (.int x1), .val (.int x2), .val (.int x3), .val (.int x4), .val (.int x5), .val (.int x6), .unset, .unset, .unset, .unset, .unset, .unset, .unset, .unset, .unset]
abbrev lc3 (x0 x1 x2 x3 x4 x5 x6 x7 : Int32) : Array Slot := #[.val (.int x0), .val (.int x1), .val (.int x2), .val (.int x3), .val (.int x4), .val (.int x5), .val (.int x6), .val (.int x7), .unset, .unset, .unset, .unset, .unset, .unset, .unset, .unset]
abbrev lc4 (x0 x1 x2 x3 x4 x5 x6 x7 x8 : Int32) : Array Slot := #[.val (.int x0), .val (.int x1), .val (.int x2), .val (.int x3), .val (.int x4), .val (.int x5), .val (.int x6), .val (.int x7), .val (.int x8), .unset, .unset, .unset, .unset, .unset, .unset, .unset]
abbrev lc5 (x0 x1 x2 x3 x4 x5 x6 x7 x8 x9 : Int32) : Array Slot := #[.val (.int x0), .val (.int x1), .val (.int x2), .val (.int x3), .val (.int x4), .val (.int x5), .val (.int x6), .val (.int x7), .val (.int x8), .val (.int x9), .unset, .unset, .unset, .unset, .unset, .unset]
theorem d1_0 : decode method_2_code 0 = .ok (.iload_n 0, 1) := by decide +kernel
theorem d1_1 : decode method_2_code 1 = .ok (.ifCond .ne 7, 3) := by decide +kernel
abbrev lc6 (x0 : Int32) : Array Slot := #[.val (.int x0)]
theorem d1_4 : decode method_2_code 4 = .ok (.getstatic 7, 3) := by decide +kernel
theorem d1_7 : decode method_2_code 7 = .ok (.areturn, 1) := by decide +kernel
theorem d1_8 : decode method_2_code 8 = .ok (.iload_n 0, 1) := by decide +kernel
theorem d1_9 : decode method_2_code 9 = .ok (.iconst 1, 1) := by decide +kernel
theorem d1_10 : decode method_2_code 10 = .ok (.if_icmp .ne 7, 3) := by decide +kernel
theorem d1_13 : decode method_2_code 13 = .ok (.getstatic 13, 3) := by decide +kernel
theorem d1_16 : decode method_2_code 16 = .ok (.areturn, 1) := by decide +kernel
theorem d1_17 : decode method_2_code 17 = .ok (.iload_n 0, 1) := by decide +kernel
theorem d1_18 : decode method_2_code 18 = .ok (.iconst 2, 1) := by decide +kernel
theorem d1_19 : decode method_2_code 19 = .ok (.if_icmp .ne 7, 3) := by decide +kernel
theorem d1_22 : decode method_2_code 22 = .ok (.getstatic 16, 3) := by decide +kernel
theorem d1_25 : decode method_2_code 25 = .ok (.areturn, 1) := by decide +kernel
theorem d1_26 : decode method_2_code 26 = .ok (.iload_n 0, 1) := by decide +kernel
theorem d1_27 : decode method_2_code 27 = .ok (.iconst 3, 1) := by decide +kernel
theorem d1_28 : decode method_2_code 28 = .ok (.if_icmp .ne 7, 3) := by decide +kernel
theorem d1_31 : decode method_2_code 31 = .ok (.getstatic 19, 3) := by decide +kernel
theorem d1_34 : decode method_2_code 34 = .ok (.areturn, 1) := by decide +kernel
theorem d1_35 : decode method_2_code 35 = .ok (.iload_n 0, 1) := by decide +kernel
theorem d1_36 : decode method_2_code 36 = .ok (.iconst 4, 1) := by decide +kernel
theorem d1_37 : decode method_2_code 37 = .ok (.if_icmp .ne 7, 3) := by decide +kernel
theorem d1_40 : decode method_2_code 40 = .ok (.getstatic 22, 3) := by decide +kernel
theorem d1_43 : decode method_2_code 43 = .ok (.areturn, 1) := by decide +kernel
theorem d1_44 : decode method_2_code 44 = .ok (.iload_n 0, 1) := by decide +kernel
theorem d1_45 : decode method_2_code 45 = .ok (.iconst 5, 1) := by decide +kernel
theorem d1_46 : decode method_2_code 46 = .ok (.if_icmp .ne 7, 3) := by decide +kernel
theorem d1_49 : decode method_2_code 49 = .ok (.getstatic 25, 3) := by decide +kernel
theorem d1_52 : decode method_2_code 52 = .ok (.areturn, 1) := by decide +kernel
theorem d1_53 : decode method_2_code 53 = .ok (.iload_n 0, 1) := by decide +kernel
theorem d1_54 : decode method_2_code 54 = .ok (.bipush 6, 2) := by decide +kernel
theorem d1_56 : decode method_2_code 56 = .ok (.if_icmp .ne 7, 3) := by decide +kernel
theorem d1_59 : decode method_2_code 59 = .ok (.getstatic 28, 3) := by decide +kernel
theorem d1_62 : decode method_2_code 62 = .ok (.areturn, 1) := by decide +kernel
theorem d1_63 : decode method_2_code 63 = .ok (.getstatic 31, 3) := by decide +kernel
theorem d1_66 : decode method_2_code 66 = .ok (.areturn, 1) := by decide +kernel
theorem ef_0 (m : MethodId) (x0 : Int32) : entryFrame m #[(.int x0)] 1 = mkF m 0 #[.val (.int x0)] [] := by first | (simp [entryFrame, mkF, argsToLocals, Value.category, maxLocals]; done) | rfl
theorem pn_0 : plainName "com/example/stratafold/stratafold/measure/TallyAddPinLaw" = true := by first | (simp [plainName, overriddenIn]; done) | decide +kernel
theorem pd_0 : parseMethodDescriptor "(I)Lcom/example/stratafold/stratafold/measure/PopulationType;" = some ⟨[.int], some (.object "com/example/stratafold/stratafold/measure/PopulationType")⟩ := by decide +kernel
abbrev lc7 (x0 x1 x2 x3 x4 x5 x6 x7 x8 x9 : Int32) (x10 : Addr) : Array Slot := #[.val (.int x0), .val (.int x1), .val (.int x2), .val (.int x3), .val (.int x4), .val (.int x5), .val (.int x6), .val (.int x7), .val (.int x8), .val (.int x9), .val (.ref x10), .unset, .unset, .unset, .unset, .unset]
abbrev lc8 (x0 x1 x2 x3 x4 x5 x6 x7 x8 x9 : Int32) (x10 x11 : Addr) : Array Slot := #[.val (.int x0), .val (.int x1), .val (.int x2), .val (.int x3), .val (.int x4), .val (.int x5), .val (.int x6), .val (.int x7), .val (.int x8), .val (.int x9), .val (.ref x10), .val (.ref x11), .unset, .unset, .unset, .unset]
abbrev lc9 (x0 x1 x2 x3 x4 x5 x6 x7 x8 x9 : Int32) (x10 x11 x12 : Addr) : Array Slot := #[.val (.int x0), .val (.int x1), .val (.int x2), .val (.int x3), .val (.int x4), .val (.int x5), .val (.int x6), .val (.int x7), .val (.int x8), .val (.int x9), .val (.ref x10), .val (.ref x11), .val (.ref x12), .unset, .unset, .unset]
theorem d2_0 : decode prog_30_method_1_code 0 = .ok (.aload_n 0, 1) := by decide +kernel
theorem d2_1 : decode prog_30_method_1_code 1 = .ok (.invokespecial 1, 3) := by decide +kernel
abbrev lc10 (x0 : Addr) : Array Slot := #[.val (.ref x0)]
theorem d2_4 : decode prog_30_method_1_code 4 = .ok (.aload_n 0, 1) := by decide +kernel
theorem d2_5 : decode prog_30_method_1_code 5 = .ok (.invokestatic 7, 3) := by decide +kernel
theorem d4_0 : decode prog_26_method_1_code 0 = .ok (.getstatic 28, 3) := by decide +kernel
abbrev lc11  : Array Slot := #[]
theorem d4_3 : decode prog_26_method_1_code 3 = .ok (.invokevirtual 32, 3) := by decide +kernel
theorem d4_6 : decode prog_26_method_1_code 6 = .ok (.checkcast 33, 3) := by decide +kernel
theorem d4_9 : decode prog_26_method_1_code 9 = .ok (.areturn, 1) := by decide +kernel
theorem ef_1 (m : MethodId)  : entryFrame m #[] 0 = mkF m 0 #[] [] := by first | (simp [entryFrame, mkF, argsToLocals, Value.category, maxLocals]; done) | rfl
theorem pn_1 : plainName "com/example/stratafold/stratafold/measure/PopulationType" = true := by first | (simp [plainName, overriddenIn]; done) | decide +kernel
theorem pd_1 : parseMethodDescriptor "()[Lcom/example/stratafold/stratafold/measure/PopulationType;" = some ⟨[], some (.array (.object "com/example/stratafold/stratafold/measure/PopulationType"))⟩ := by decide +kernel
theorem d2_8 : decode prog_30_method_1_code 8 = .ok (.arraylength, 1) := by decide +kernel
theorem d2_9 : decode prog_30_method_1_code 9 = .ok (.newarray .int, 2) := by decide +kernel
theorem d2_11 : decode prog_30_method_1_code 11 = .ok (.putfield 13, 3) := by decide +kernel
theorem d2_14 : decode prog_30_method_1_code 14 = .ok (.aload_n 0, 1) := by decide +kernel
theorem d2_15 : decode prog_30_method_1_code 15 = .ok (.new 19, 3) := by decide +kernel
theorem d2_18 : decode prog_30_method_1_code 18 = .ok (.dup, 1) := by decide +kernel
theorem d2_19 : decode prog_30_method_1_code 19 = .ok (.invokespecial 21, 3) := by decide +kernel
theorem d5_0 : decode jdk_38_method_2_code 0 = .ok (.aload_n 0, 1) := by decide +kernel
theorem d5_1 : decode jdk_38_method_2_code 1 = .ok (.invokespecial 1, 3) := by decide +kernel
theorem d6_0 : decode jdk_39_method_1_code 0 = .ok (.aload_n 0, 1) := by decide +kernel
theorem d6_1 : decode jdk_39_method_1_code 1 = .ok (.invokespecial 1, 3) := by decide +kernel
theorem d7_0 : decode jdk_22_method_1_code 0 = .ok (.aload_n 0, 1) := by decide +kernel
theorem d7_1 : decode jdk_22_method_1_code 1 = .ok (.invokespecial 1, 3) := by decide +kernel
theorem d7_4 : decode jdk_22_method_1_code 4 = .ok (.return_, 1) := by decide +kernel
theorem ef_2 (m : MethodId) (x0 : Addr) : entryFrame m #[(.ref x0)] 1 = mkF m 0 #[.val (.ref x0)] [] := by first | (simp [entryFrame, mkF, argsToLocals, Value.category, maxLocals]; done) | rfl
theorem pn_2 : plainName "java/util/AbstractCollection" = true := by first | (simp [plainName, overriddenIn]; done) | decide +kernel
theorem pd_2 : parseMethodDescriptor "()V" = some ⟨[], none⟩ := by decide +kernel
theorem d6_4 : decode jdk_39_method_1_code 4 = .ok (.aload_n 0, 1) := by decide +kernel
theorem d6_5 : decode jdk_39_method_1_code 5 = .ok (.iconst 0, 1) := by decide +kernel
theorem d6_6 : decode jdk_39_method_1_code 6 = .ok (.putfield 7, 3) := by decide +kernel
theorem d6_9 : decode jdk_39_method_1_code 9 = .ok (.return_, 1) := by decide +kernel
theorem pn_3 : plainName "java/util/AbstractList" = true := by first | (simp [plainName, overriddenIn]; done) | decide +kernel
theorem d5_4 : decode jdk_38_method_2_code 4 = .ok (.aload_n 0, 1) := by decide +kernel
theorem d5_5 : decode jdk_38_method_2_code 5 = .ok (.getstatic 39, 3) := by decide +kernel
theorem d5_8 : decode jdk_38_method_2_code 8 = .ok (.putfield 9, 3) := by decide +kernel
theorem d5_11 : decode jdk_38_method_2_code 11 = .ok (.return_, 1) := by decide +kernel
theorem pn_4 : plainName "java/util/ArrayList" = true := by first | (simp [plainName, overriddenIn]; done) | decide +kernel
theorem d2_22 : decode prog_30_method_1_code 22 = .ok (.putfield 22, 3) := by decide +kernel
theorem d2_25 : decode prog_30_method_1_code 25 = .ok (.return_, 1) := by decide +kernel
theorem pn_5 : plainName "com/example/stratafold/stratafold/measure/Tally" = true := by first | (simp [plainName, overriddenIn]; done) | decide +kernel
abbrev lc12 (x0 x1 x2 x3 x4 x5 x6 x7 x8 x9 : Int32) (x10 x11 x12 x13 : Addr) : Array Slot := #[.val (.int x0), .val (.int x1), .val (.int x2), .val (.int x3), .val (.int x4), .val (.int x5), .val (.int x6), .val (.int x7), .val (.int x8), .val (.int x9), .val (.ref x10), .val (.ref x11), .val (.ref x12), .val (.ref x13), .unset, .unset]
theorem d8_0 : decode prog_30_method_2_code 0 = .ok (.aload_n 0, 1) := by decide +kernel
theorem d8_1 : decode prog_30_method_2_code 1 = .ok (.getfield 13, 3) := by decide +kernel
abbrev lc13 (x0 x1 : Addr) (x2 : Int32) : Array Slot := #[.val (.ref x0), .val (.ref x1), .val (.int x2)]
theorem d8_4 : decode prog_30_method_2_code 4 = .ok (.aload_n 1, 1) := by decide +kernel
theorem d8_5 : decode prog_30_method_2_code 5 = .ok (.invokevirtual 26, 3) := by decide +kernel
theorem d9_0 : decode jdk_37_method_2_code 0 = .ok (.aload_n 0, 1) := by decide +kernel
theorem d9_1 : decode jdk_37_method_2_code 1 = .ok (.getfield 7, 3) := by decide +kernel
theorem d9_4 : decode jdk_37_method_2_code 4 = .ok (.ireturn, 1) := by decide +kernel
theorem pn_6 : plainName "java/lang/Enum" = true := by first | (simp [plainName, overriddenIn]; done) | decide +kernel
theorem pd_3 : parseMethodDescriptor "()I" = some ⟨[], some .int⟩ := by decide +kernel
theorem d8_8 : decode prog_30_method_2_code 8 = .ok (.dup2, 1) := by decide +kernel
theorem d8_9 : decode prog_30_method_2_code 9 = .ok (.iaload, 1) := by decide +kernel
theorem d8_10 : decode prog_30_method_2_code 10 = .ok (.iload_n 2, 1) := by decide +kernel
theorem d8_11 : decode prog_30_method_2_code 11 = .ok (.ifCond .eq 7, 3) := by decide +kernel
theorem d8_18 : decode prog_30_method_2_code 18 = .ok (.iconst 0, 1) := by decide +kernel
theorem d8_19 : decode prog_30_method_2_code 19 = .ok (.iadd, 1) := by decide +kernel
theorem d8_20 : decode prog_30_method_2_code 20 = .ok (.iastore, 1) := by decide +kernel
theorem d8_21 : decode prog_30_method_2_code 21 = .ok (.return_, 1) := by decide +kernel
theorem ef_3 (m : MethodId) (x0 x1 : Addr) (x2 : Int32) : entryFrame m #[(.ref x0), (.ref x1), (.int x2)] 3 = mkF m 0 #[.val (.ref x0), .val (.ref x1), .val (.int x2)] [] := by first | (simp [entryFrame, mkF, argsToLocals, Value.category, maxLocals]; done) | rfl
theorem pd_4 : parseMethodDescriptor "(Lcom/example/stratafold/stratafold/measure/PopulationType;Z)V" = some ⟨[(.object "com/example/stratafold/stratafold/measure/PopulationType"), .boolean], none⟩ := by decide +kernel
theorem d10_0 : decode method_3_code 0 = .ok (.iload_n 0, 1) := by decide +kernel
theorem d10_1 : decode method_3_code 1 = .ok (.ifCond .eq 7, 3) := by decide +kernel
theorem d10_8 : decode method_3_code 8 = .ok (.iconst 0, 1) := by decide +kernel
theorem d10_9 : decode method_3_code 9 = .ok (.ireturn, 1) := by decide +kernel
theorem pd_5 : parseMethodDescriptor "(Z)I" = some ⟨[.boolean], some .int⟩ := by decide +kernel
abbrev lc14 (x0 x1 x2 x3 x4 x5 x6 x7 x8 x9 : Int32) (x10 x11 x12 x13 : Addr) (x14 : Int32) : Array Slot := #[.val (.int x0), .val (.int x1), .val (.int x2), .val (.int x3), .val (.int x4), .val (.int x5), .val (.int x6), .val (.int x7), .val (.int x8), .val (.int x9), .val (.ref x10), .val (.ref x11), .val (.ref x12), .val (.ref x13), .val (.int x14), .unset]
abbrev lc15 (x0 x1 x2 x3 x4 x5 x6 x7 x8 x9 : Int32) (x10 x11 x12 x13 : Addr) (x14 x15 : Int32) : Array Slot := #[.val (.int x0), .val (.int x1), .val (.int x2), .val (.int x3), .val (.int x4), .val (.int x5), .val (.int x6), .val (.int x7), .val (.int x8), .val (.int x9), .val (.ref x10), .val (.ref x11), .val (.ref x12), .val (.ref x13), .val (.int x14), .val (.int x15)]
theorem d11_0 : decode prog_30_method_5_code 0 = .ok (.aload_n 0, 1) := by decide +kernel
theorem d11_1 : decode prog_30_method_5_code 1 = .ok (.getfield 13, 3) := by decide +kernel
abbrev lc16 (x0 x1 : Addr) : Array Slot := #[.val (.ref x0), .val (.ref x1)]
theorem d11_4 : decode prog_30_method_5_code 4 = .ok (.aload_n 1, 1) := by decide +kernel
theorem d11_5 : decode prog_30_method_5_code 5 = .ok (.invokevirtual 26, 3) := by decide +kernel
theorem d11_8 : decode prog_30_method_5_code 8 = .ok (.iaload, 1) := by decide +kernel
theorem d11_9 : decode prog_30_method_5_code 9 = .ok (.ireturn, 1) := by decide +kernel
theorem ef_4 (m : MethodId) (x0 x1 : Addr) : entryFrame m #[(.ref x0), (.ref x1)] 2 = mkF m 0 #[.val (.ref x0), .val (.ref x1)] [] := by first | (simp [entryFrame, mkF, argsToLocals, Value.category, maxLocals]; done) | rfl
theorem pd_6 : parseMethodDescriptor "(Lcom/example/stratafold/stratafold/measure/PopulationType;)I" = some ⟨[(.object "com/example/stratafold/stratafold/measure/PopulationType")], some .int⟩ := by decide +kernel
theorem ef_5 (m : MethodId) (x0 x1 x2 x3 : Int32) : entryFrame m #[(.int x0), (.int x1), (.int x2), (.int x3)] maxLocals = mkF m 0 #[.val (.int x0), .val (.int x1), .val (.int x2), .val (.int x3), .unset, .unset, .unset, .unset, .unset, .unset, .unset, .unset, .unset, .unset, .unset, .unset] [] := by first | (simp [entryFrame, mkF, argsToLocals, Value.category, maxLocals]; done) | rfl
abbrev lc17 (x0 x1 x2 x3 : Int32) : Array Slot := #[.val (.int x0), .val (.int x1), .val (.int x2), .val (.int x3), .unset, .unset, .unset, .unset, .unset, .unset, .unset, .unset, .unset, .unset, .unset, .unset]
theorem d8_14 : decode prog_30_method_2_code 14 = .ok (.iconst 1, 1) := by decide +kernel
theorem d8_15 : decode prog_30_method_2_code 15 = .ok (.goto 4, 3) := by decide +kernel
theorem d10_4 : decode method_3_code 4 = .ok (.iconst 1, 1) := by decide +kernel
theorem d10_5 : decode method_3_code 5 = .ok (.goto 4, 3) := by decide +kernel
abbrev zs0 : String := "com/example/stratafold/stratafold/measure/PopulationType"
abbrev zs1 : String := "INITIAL_POPULATION"
abbrev zs2 : String := "Lcom/example/stratafold/stratafold/measure/PopulationType;"
abbrev zs3 : String := "DENOMINATOR"
abbrev zs4 : String := "DENOMINATOR_EXCLUSION"
abbrev zs5 : String := "NUMERATOR"
abbrev zs6 : String := "DENOMINATOR_EXCEPTION"
abbrev zs7 : String := "MEASURE_POPULATION"
abbrev zs8 : String := "MEASURE_POPULATION_EXCLUSION"
abbrev zs9 : String := "MEASURE_OBSERVATION"
abbrev zs10 : String := "com/example/stratafold/stratafold/measure/TallyAddPinLaw"
abbrev zs11 : String := "(I)Lcom/example/stratafold/stratafold/measure/PopulationType;"
abbrev zs12 : String := "[Lcom/example/stratafold/stratafold/measure/PopulationType;"
abbrev zs13 : String := "()[Lcom/example/stratafold/stratafold/measure/PopulationType;"
abbrev zs14 : String := "java/util/AbstractCollection"
abbrev zs15 : String := "java/util/AbstractList"
abbrev zs16 : String := "modCount"
abbrev zs17 : String := "java/util/ArrayList"
abbrev zs18 : String := "elementData"
abbrev zs19 : String := "[Ljava/lang/Object;"
abbrev zs20 : String := "java/lang/Object"
abbrev zs21 : String := "DEFAULTCAPACITY_EMPTY_ELEMENTDATA"
abbrev zs22 : String := "com/example/stratafold/stratafold/measure/Tally"
abbrev zs23 : String := "observations"
abbrev zs24 : String := "Ljava/util/List;"
abbrev zs25 : String := "java/util/List"
abbrev zs26 : String := "java/lang/Enum"
abbrev zs27 : String := "(Lcom/example/stratafold/stratafold/measure/PopulationType;Z)V"
abbrev zs28 : String := "(Lcom/example/stratafold/stratafold/measure/PopulationType;)I"
abbrev zm0 : MethodName := (⟨zs10, "pick", zs11⟩ : MethodName)
abbrev zm1 : MethodName := (⟨zs0, "values", zs13⟩ : MethodName)
abbrev zm2 : MethodName := (⟨zs14, "<init>", "()V"⟩ : MethodName)
abbrev zm3 : MethodName := (⟨zs15, "<init>", "()V"⟩ : MethodName)
abbrev zm4 : MethodName := (⟨zs17, "<init>", "()V"⟩ : MethodName)
abbrev zm5 : MethodName := (⟨zs22, "<init>", "()V"⟩ : MethodName)
abbrev zm6 : MethodName := (⟨zs26, "ordinal", "()I"⟩ : MethodName)
abbrev zm7 : MethodName := (⟨zs22, "add", zs27⟩ : MethodName)
abbrev zm8 : MethodName := (⟨zs0, "ordinal", "()I"⟩ : MethodName)
abbrev zm9 : MethodName := (⟨zs10, "one", "(Z)I"⟩ : MethodName)
abbrev zm10 : MethodName := (⟨zs22, "count", zs28⟩ : MethodName)
def Q1_0 (Z : State) (p1 : Int32) (a3 a6 a8 a10 a12 a14 a16 a18 : Addr) (h0 : Heap) (n0 : Nat) (v : Option Value) (h : Heap) (L : List Loc) : Prop := v = some (.ref (own_pick p1 a3 a6 a8 a10 a12 a14 a16 a18)) ∧ Fr n0 L ∧ h = h0
set_option maxRecDepth 65536 in
set_option maxHeartbeats 40000000 in
theorem rm1_0 (l : Launch) (Z : State) (a0 : Array Value) (hw : ∀ d ∈ tables_1, d.before a0 Z = true) (ws : List Jvm.Cond) (p1 : Int32) (a3 a6 a8 a10 a12 a14 a16 a18 : Addr) (h0 : Heap) (n0 : Nat) (Z0 : n0 ≤ h0.size) (hc2 : p1 = (0 : Int32)) (F4 : Sta Z h0 zs0 zs1 zs2 (.ref a3)) (F7 : Sta Z h0 zs0 zs3 zs2 (.ref a6)) (F9 : Sta Z h0 zs0 zs4 zs2 (.ref a8)) (F11 : Sta Z h0 zs0 zs5 zs2 (.ref a10)) (F13 : Sta Z h0 zs0 zs6 zs2 (.ref a12)) (F15 : Sta Z h0 zs0 zs7 zs2 (.ref a14)) (F17 : Sta Z h0 zs0 zs8 zs2 (.ref a16)) (F19 : Sta Z h0 zs0 zs9 zs2 (.ref a18)) :
    MetFree l zm0 (head1 (Jvm.Cond.code zm0 method_2_code 1 (some (.object zs0)) :: ws) ({ frames := 0, cells := 0, slots := 0, locals := 0 } : Room)) (fun a U => a = #[(.int p1)] ∧ Z.Warmed39 U.vm ∧ U.heap = h0) (fun _ _ _ _ _ => True) (fun _ U o U' => ∃ v L, o = .returned v ∧ Q1_0 Z p1 a3 a6 a8 a10 a12 a14 a16 a18 h0 n0 v U'.heap L ∧ FrameEnd U o U' L ({ frames := 0, cells := 0, slots := 0, locals := 0 } : Room).cells ({ frames := 0, cells := 0, slots := 0, locals := 0 } : Room).slots) := by
  refine MetFree.of_bodySF (plainFor_of_name pn_0) hisR ?_
  intro p e s m args below meth c s₁ Bd hml0 hP hK
  obtain ⟨rfl, hZ, hh⟩ := hP
  have hx := Bd.exec
  have hby := Bd.bytes
  have hml : c.maxLocals = 1 := hml0
  have hown : s.vm.findClass zs10 = some m.cls := findClass_of_methodNamed Bd.named
  have hnm := (name_of_methodNamed Bd.named Bd.method).1
  have X0 : Stand p l e ({ frames := 0, cells := 0, slots := 0, locals := 0 } : Room) s m #[(.int p1)] below meth c s₁ [] 0 0 := Stand.of_body Bd
  have e0 : s₁.heap = h0 := by rw [← hh, Bd.state]; rfl
  have N0 := Fr.nil n0
  refine own_pre (g' := mkF m 0 (lc6 p1) []) (ef_0 m p1) ?_
  refine own_go (U' := s₁.setTop (mkF m 1 (lc6 p1) [(.int p1)])) (fun t k => oiloadN X0 hx hby d1_0 rfl k) ?_
  obtain ⟨T5, X5, e5, st5⟩ := getS2 X0 hx hZ hown (host := "") (Or.inl (ww hw 4 rfl)) Via.refl e0 F4 (g := (mkF m 4 (lc6 p1) [])) rfl (hb hby d1_4)
  refine own_go (U' := T5.setTop (mkF m 7 (lc6 p1) [(.ref a3)])) (fun t k => oifN X0 hx hby d1_1 ((if0 _ _).trans (teq hc2).2) (st5 _ k)) ?_
  obtain ⟨fs, hr, hrun, hended, hW, hsame⟩ := X5.leave (v := some (.ref a3)) (fun h => by rw [Bd.returns] at h; cases h)
  refine own_out ⟨_, _, ?_, hrun, hended, _, _, rfl, ?_, ⟨_, rfl⟩, hW, hsame.mono (by decide) (by decide)⟩
  · exact retOut X5 hx Bd.returns rfl (Or.inr (Or.inr (Or.inr (Or.inr ⟨rfl, rfl, rfl⟩)))) (hb hby d1_7) hr
  · show Q1_0 Z p1 a3 a6 a8 a10 a12 a14 a16 a18 h0 n0 _ T5.heap _
    rw [e5]
    exact ⟨(by simp [own_pick, hc2]), N0, rfl⟩
def Q1_1 (Z : State) (p1 : Int32) (a4 a7 a9 a11 a13 a15 a17 a19 : Addr) (h0 : Heap) (n0 : Nat) (v : Option Value) (h : Heap) (L : List Loc) : Prop := v = some (.ref (own_pick p1 a7 a4 a9 a11 a13 a15 a17 a19)) ∧ Fr n0 L ∧ h = h0
set_option maxRecDepth 65536 in
set_option maxHeartbeats 40000000 in
theorem rm1_1 (l : Launch) (Z : State) (a0 : Array Value) (hw : ∀ d ∈ tables_1, d.before a0 Z = true) (ws : List Jvm.Cond) (p1 : Int32) (a4 a7 a9 a11 a13 a15 a17 a19 : Addr) (h0 : Heap) (n0 : Nat) (Z0 : n0 ≤ h0.size) (hc2 : ¬ (p1 = (0 : Int32))) (hc3 : p1 = (1 : Int32)) (F5 : Sta Z h0 zs0 zs3 zs2 (.ref a4)) (F8 : Sta Z h0 zs0 zs1 zs2 (.ref a7)) (F10 : Sta Z h0 zs0 zs4 zs2 (.ref a9)) (F12 : Sta Z h0 zs0 zs5 zs2 (.ref a11)) (F14 : Sta Z h0 zs0 zs6 zs2 (.ref a13)) (F16 : Sta Z h0 zs0 zs7 zs2 (.ref a15)) (F18 : Sta Z h0 zs0 zs8 zs2 (.ref a17)) (F20 : Sta Z h0 zs0 zs9 zs2 (.ref a19)) :
    MetFree l zm0 (head1 (Jvm.Cond.code zm0 method_2_code 1 (some (.object zs0)) :: ws) ({ frames := 0, cells := 0, slots := 0, locals := 0 } : Room)) (fun a U => a = #[(.int p1)] ∧ Z.Warmed39 U.vm ∧ U.heap = h0) (fun _ _ _ _ _ => True) (fun _ U o U' => ∃ v L, o = .returned v ∧ Q1_1 Z p1 a4 a7 a9 a11 a13 a15 a17 a19 h0 n0 v U'.heap L ∧ FrameEnd U o U' L ({ frames := 0, cells := 0, slots := 0, locals := 0 } : Room).cells ({ frames := 0, cells := 0, slots := 0, locals := 0 } : Room).slots) := by
  refine MetFree.of_bodySF (plainFor_of_name pn_0) hisR ?_
  intro p e s m args below meth c s₁ Bd hml0 hP hK
  obtain ⟨rfl, hZ, hh⟩ := hP
  have hx := Bd.exec
  have hby := Bd.bytes
  have hml : c.maxLocals = 1 := hml0
  have hown : s.vm.findClass zs10 = some m.cls := findClass_of_methodNamed Bd.named
  have hnm := (name_of_methodNamed Bd.named Bd.method).1
  have X0 : Stand p l e ({ frames := 0, cells := 0, slots := 0, locals := 0 } : Room) s m #[(.int p1)] below meth c s₁ [] 0 0 := Stand.of_body Bd
  have e0 : s₁.heap = h0 := by rw [← hh, Bd.state]; rfl
  have N0 := Fr.nil n0
  refine own_pre (g' := mkF m 0 (lc6 p1) []) (ef_0 m p1) ?_
  refine own_go (U' := s₁.setTop (mkF m 1 (lc6 p1) [(.int p1)])) (fun t k => oiloadN X0 hx hby d1_0 rfl k) ?_
  refine own_go (U' := s₁.setTop (mkF m 10 (lc6 p1) [(.int 1), (.int p1)])) (fun t k => oifY (pc := 1) X0 hx hby d1_1 8 ((if0 _ _).trans (feq hc2).2) (by decide) (oiloadN X0 hx hby d1_8 rfl (oiconst X0 hx hby d1_9 k))) ?_
  obtain ⟨T6, X6, e6, st6⟩ := getS2 X0 hx hZ hown (host := "") (Or.inl (ww hw 94 rfl)) Via.refl e0 F5 (g := (mkF m 13 (lc6 p1) [])) rfl (hb hby d1_13)
  refine own_go (U' := T6.setTop (mkF m 16 (lc6 p1) [(.ref a4)])) (fun t k => oicN X0 hx hby d1_10 (teq hc3).2 (st6 _ k)) ?_
  obtain ⟨fs, hr, hrun, hended, hW, hsame⟩ := X6.leave (v := some (.ref a4)) (fun h => by rw [Bd.returns] at h; cases h)
  refine own_out ⟨_, _, ?_, hrun, hended, _, _, rfl, ?_, ⟨_, rfl⟩, hW, hsame.mono (by decide) (by decide)⟩
  · exact retOut X6 hx Bd.returns rfl (Or.inr (Or.inr (Or.inr (Or.inr ⟨rfl, rfl, rfl⟩)))) (hb hby d1_16) hr
  · show Q1_1 Z p1 a4 a7 a9 a11 a13 a15 a17 a19 h0 n0 _ T6.heap _
    rw [e6]
    exact ⟨(by simp [own_pick, hc2, hc3]), N0, rfl⟩
def Q1_2 (Z : State) (p1 : Int32) (a5 a8 a10 a12 a14 a16 a18 a20 : Addr) (h0 : Heap) (n0 : Nat) (v : Option Value) (h : Heap) (L : List Loc) : Prop := v = some (.ref (own_pick p1 a8 a10 a5 a12 a14 a16 a18 a20)) ∧ Fr n0 L ∧ h = h0
set_option maxRecDepth 65536 in
set_option maxHeartbeats 40000000 in
theorem rm1_2 (l : Launch) (Z : State) (a0 : Array Value) (hw : ∀ d ∈ tables_1, d.before a0 Z = true) (ws : List Jvm.Cond) (p1 : Int32) (a5 a8 a10 a12 a14 a16 a18 a20 : Addr) (h0 : Heap) (n0 : Nat) (Z0 : n0 ≤ h0.size) (hc2 : ¬ (p1 = (0 : Int32))) (hc3 : ¬ (p1 = (1 : Int32))) (hc4 : p1 = (2 : Int32)) (F6 : Sta Z h0 zs0 zs4 zs2 (.ref a5)) (F9 : Sta Z h0 zs0 zs1 zs2 (.ref a8)) (F11 : Sta Z h0 zs0 zs3 zs2 (.ref a10)) (F13 : Sta Z h0 zs0 zs5 zs2 (.ref a12)) (F15 : Sta Z h0 zs0 zs6 zs2 (.ref a14)) (F17 : Sta Z h0 zs0 zs7 zs2 (.ref a16)) (F19 : Sta Z h0 zs0 zs8 zs2 (.ref a18)) (F21 : Sta Z h0 zs0 zs9 zs2 (.ref a20)) :
    MetFree l zm0 (head1 (Jvm.Cond.code zm0 method_2_code 1 (some (.object zs0)) :: ws) ({ frames := 0, cells := 0, slots := 0, locals := 0 } : Room)) (fun a U => a = #[(.int p1)] ∧ Z.Warmed39 U.vm ∧ U.heap = h0) (fun _ _ _ _ _ => True) (fun _ U o U' => ∃ v L, o = .returned v ∧ Q1_2 Z p1 a5 a8 a10 a12 a14 a16 a18 a20 h0 n0 v U'.heap L ∧ FrameEnd U o U' L ({ frames := 0, cells := 0, slots := 0, locals := 0 } : Room).cells ({ frames := 0, cells := 0, slots := 0, locals := 0 } : Room).slots) := by
  refine MetFree.of_bodySF (plainFor_of_name pn_0) hisR ?_
  intro p e s m args below meth c s₁ Bd hml0 hP hK
  obtain ⟨rfl, hZ, hh⟩ := hP
  have hx := Bd.exec
  have hby := Bd.bytes
  have hml : c.maxLocals = 1 := hml0
  have hown : s.vm.findClass zs10 = some m.cls := findClass_of_methodNamed Bd.named
  have hnm := (name_of_methodNamed Bd.named Bd.method).1
  have X0 : Stand p l e ({ frames := 0, cells := 0, slots := 0, locals := 0 } : Room) s m #[(.int p1)] below meth c s₁ [] 0 0 := Stand.of_body Bd
  have e0 : s₁.heap = h0 := by rw [← hh, Bd.state]; rfl
  have N0 := Fr.nil n0
  refine own_pre (g' := mkF m 0 (lc6 p1) []) (ef_0 m p1) ?_
  refine own_go (U' := s₁.setTop (mkF m 1 (lc6 p1) [(.int p1)])) (fun t k => oiloadN X0 hx hby d1_0 rfl k) ?_
  refine own_go (U' := s₁.setTop (mkF m 10 (lc6 p1) [(.int 1), (.int p1)])) (fun t k => oifY (pc := 1) X0 hx hby d1_1 8 ((if0 _ _).trans (feq hc2).2) (by decide) (oiloadN X0 hx hby d1_8 rfl (oiconst X0 hx hby d1_9 k))) ?_
  refine own_go (U' := s₁.setTop (mkF m 19 (lc6 p1) [(.int 2), (.int p1)])) (fun t k => oicY (pc := 10) X0 hx hby d1_10 17 (feq hc3).2 (by decide) (oiloadN X0 hx hby d1_17 rfl (oiconst X0 hx hby d1_18 k))) ?_
  obtain ⟨T7, X7, e7, st7⟩ := getS2 X0 hx hZ hown (host := "") (Or.inl (ww hw 9 rfl)) Via.refl e0 F6 (g := (mkF m 22 (lc6 p1) [])) rfl (hb hby d1_22)
  refine own_go (U' := T7.setTop (mkF m 25 (lc6 p1) [(.ref a5)])) (fun t k => oicN X0 hx hby d1_19 (teq hc4).2 (st7 _ k)) ?_
  obtain ⟨fs, hr, hrun, hended, hW, hsame⟩ := X7.leave (v := some (.ref a5)) (fun h => by rw [Bd.returns] at h; cases h)
  refine own_out ⟨_, _, ?_, hrun, hended, _, _, rfl, ?_, ⟨_, rfl⟩, hW, hsame.mono (by decide) (by decide)⟩
  · exact retOut X7 hx Bd.returns rfl (Or.inr (Or.inr (Or.inr (Or.inr ⟨rfl, rfl, rfl⟩)))) (hb hby d1_25) hr
  · show Q1_2 Z p1 a5 a8 a10 a12 a14 a16 a18 a20 h0 n0 _ T7.heap _
    rw [e7]
    exact ⟨(by simp [own_pick, hc2, hc3, hc4]), N0, rfl⟩
def Q1_3 (Z : State) (p1 : Int32) (a6 a9 a11 a13 a15 a17 a19 a21 : Addr) (h0 : Heap) (n0 : Nat) (v : Option Value) (h : Heap) (L : List Loc) : Prop := v = some (.ref (own_pick p1 a9 a11 a13 a6 a15 a17 a19 a21)) ∧ Fr n0 L ∧ h = h0
set_option maxRecDepth 65536 in
set_option maxHeartbeats 40000000 in
theorem rm1_3 (l : Launch) (Z : State) (a0 : Array Value) (hw : ∀ d ∈ tables_1, d.before a0 Z = true) (ws : List Jvm.Cond) (p1 : Int32) (a6 a9 a11 a13 a15 a17 a19 a21 : Addr) (h0 : Heap) (n0 : Nat) (Z0 : n0 ≤ h0.size) (hc2 : ¬ (p1 = (0 : Int32))) (hc3 : ¬ (p1 = (1 : Int32))) (hc4 : ¬ (p1 = (2 : Int32))) (hc5 : p1 = (3 : Int32)) (F7 : Sta Z h0 zs0 zs5 zs2 (.ref a6)) (F10 : Sta Z h0 zs0 zs1 zs2 (.ref a9)) (F12 : Sta Z h0 zs0 zs3 zs2 (.ref a11)) (F14 : Sta Z h0 zs0 zs4 zs2 (.ref a13)) (F16 : Sta Z h0 zs0 zs6 zs2 (.ref a15)) (F18 : Sta Z h0 zs0 zs7 zs2 (.ref a17)) (F20 : Sta Z h0 zs0 zs8 zs2 (.ref a19)) (F22 : Sta Z h0 zs0 zs9 zs2 (.ref a21)) :
    MetFree l zm0 (head1 (Jvm.Cond.code zm0 method_2_code 1 (some (.object zs0)) :: ws) ({ frames := 0, cells := 0, slots := 0, locals := 0 } : Room)) (fun a U => a = #[(.int p1)] ∧ Z.Warmed39 U.vm ∧ U.heap = h0) (fun _ _ _ _ _ => True) (fun _ U o U' => ∃ v L, o = .returned v ∧ Q1_3 Z p1 a6 a9 a11 a13 a15 a17 a19 a21 h0 n0 v U'.heap L ∧ FrameEnd U o U' L ({ frames := 0, cells := 0, slots := 0, locals := 0 } : Room).cells ({ frames := 0, cells := 0, slots := 0, locals := 0 } : Room).slots) := by
  refine MetFree.of_bodySF (plainFor_of_name pn_0) hisR ?_
  intro p e s m args below meth c s₁ Bd hml0 hP hK
  obtain ⟨rfl, hZ, hh⟩ := hP
  have hx := Bd.exec
  have hby := Bd.bytes
  have hml : c.maxLocals = 1 := hml0
  have hown : s.vm.findClass zs10 = some m.cls := findClass_of_methodNamed Bd.named
  have hnm := (name_of_methodNamed Bd.named Bd.method).1
  have X0 : Stand p l e ({ frames := 0, cells := 0, slots := 0, locals := 0 } : Room) s m #[(.int p1)] below meth c s₁ [] 0 0 := Stand.of_body Bd
  have e0 : s₁.heap = h0 := by rw [← hh, Bd.state]; rfl
  have N0 := Fr.nil n0
  refine own_pre (g' := mkF m 0 (lc6 p1) []) (ef_0 m p1) ?_
  refine own_go (U' := s₁.setTop (mkF m 1 (lc6 p1) [(.int p1)])) (fun t k => oiloadN X0 hx hby d1_0 rfl k) ?_
  refine own_go (U' := s₁.setTop (mkF m 10 (lc6 p1) [(.int 1), (.int p1)])) (fun t k => oifY (pc := 1) X0 hx hby d1_1 8 ((if0 _ _).trans (feq hc2).2) (by decide) (oiloadN X0 hx hby d1_8 rfl (oiconst X0 hx hby d1_9 k))) ?_
  refine own_go (U' := s₁.setTop (mkF m 19 (lc6 p1) [(.int 2), (.int p1)])) (fun t k => oicY (pc := 10) X0 hx hby d1_10 17 (feq hc3).2 (by decide) (oiloadN X0 hx hby d1_17 rfl (oiconst X0 hx hby d1_18 k))) ?_
  refine own_go (U' := s₁.setTop (mkF m 28 (lc6 p1) [(.int 3), (.int p1)])) (fun t k => oicY (pc := 19) X0 hx hby d1_19 26 (feq hc4).2 (by decide) (oiloadN X0 hx hby d1_26 rfl (oiconst X0 hx hby d1_27 k))) ?_
  obtain ⟨T8, X8, e8, st8⟩ := getS2 X0 hx hZ hown (host := "") (Or.inl (ww hw 7 rfl)) Via.refl e0 F7 (g := (mkF m 31 (lc6 p1) [])) rfl (hb hby d1_31)
  refine own_go (U' := T8.setTop (mkF m 34 (lc6 p1) [(.ref a6)])) (fun t k => oicN X0 hx hby d1_28 (teq hc5).2 (st8 _ k)) ?_
  obtain ⟨fs, hr, hrun, hended, hW, hsame⟩ := X8.leave (v := some (.ref a6)) (fun h => by rw [Bd.returns] at h; cases h)
  refine own_out ⟨_, _, ?_, hrun, hended, _, _, rfl, ?_, ⟨_, rfl⟩, hW, hsame.mono (by decide) (by decide)⟩
  · exact retOut X8 hx Bd.returns rfl (Or.inr (Or.inr (Or.inr (Or.inr ⟨rfl, rfl, rfl⟩)))) (hb hby d1_34) hr
  · show Q1_3 Z p1 a6 a9 a11 a13 a15 a17 a19 a21 h0 n0 _ T8.heap _
    rw [e8]
    exact ⟨(by simp [own_pick, hc2, hc3, hc4, hc5]), N0, rfl⟩
def Q1_4 (Z : State) (p1 : Int32) (a7 a10 a12 a14 a16 a18 a20 a22 : Addr) (h0 : Heap) (n0 : Nat) (v : Option Value) (h : Heap) (L : List Loc) : Prop := v = some (.ref (own_pick p1 a10 a12 a14 a16 a7 a18 a20 a22)) ∧ Fr n0 L ∧ h = h0
set_option maxRecDepth 65536 in
set_option maxHeartbeats 40000000 in
theorem rm1_4 (l : Launch) (Z : State) (a0 : Array Value) (hw : ∀ d ∈ tables_1, d.before a0 Z = true) (ws : List Jvm.Cond) (p1 : Int32) (a7 a10 a12 a14 a16 a18 a20 a22 : Addr) (h0 : Heap) (n0 : Nat) (Z0 : n0 ≤ h0.size) (hc2 : ¬ (p1 = (0 : Int32))) (hc3 : ¬ (p1 = (1 : Int32))) (hc4 : ¬ (p1 = (2 : Int32))) (hc5 : ¬ (p1 = (3 : Int32))) (hc6 : p1 = (4 : Int32)) (F8 : Sta Z h0 zs0 zs6 zs2 (.ref a7)) (F11 : Sta Z h0 zs0 zs1 zs2 (.ref a10)) (F13 : Sta Z h0 zs0 zs3 zs2 (.ref a12)) (F15 : Sta Z h0 zs0 zs4 zs2 (.ref a14)) (F17 : Sta Z h0 zs0 zs5 zs2 (.ref a16)) (F19 : Sta Z h0 zs0 zs7 zs2 (.ref a18)) (F21 : Sta Z h0 zs0 zs8 zs2 (.ref a20)) (F23 : Sta Z h0 zs0 zs9 zs2 (.ref a22)) :
    MetFree l zm0 (head1 (Jvm.Cond.code zm0 method_2_code 1 (some (.object zs0)) :: ws) ({ frames := 0, cells := 0, slots := 0, locals := 0 } : Room)) (fun a U => a = #[(.int p1)] ∧ Z.Warmed39 U.vm ∧ U.heap = h0) (fun _ _ _ _ _ => True) (fun _ U o U' => ∃ v L, o = .returned v ∧ Q1_4 Z p1 a7 a10 a12 a14 a16 a18 a20 a22 h0 n0 v U'.heap L ∧ FrameEnd U o U' L ({ frames := 0, cells := 0, slots := 0, locals := 0 } : Room).cells ({ frames := 0, cells := 0, slots := 0, locals := 0 } : Room).slots) := by
  refine MetFree.of_bodySF (plainFor_of_name pn_0) hisR ?_
  intro p e s m args below meth c s₁ Bd hml0 hP hK
  obtain ⟨rfl, hZ, hh⟩ := hP
  have hx := Bd.exec
  have hby := Bd.bytes
  have hml : c.maxLocals = 1 := hml0
  have hown : s.vm.findClass zs10 = some m.cls := findClass_of_methodNamed Bd.named
  have hnm := (name_of_methodNamed Bd.named Bd.method).1
  have X0 : Stand p l e ({ frames := 0, cells := 0, slots := 0, locals := 0 } : Room) s m #[(.int p1)] below meth c s₁ [] 0 0 := Stand.of_body Bd
  have e0 : s₁.heap = h0 := by rw [← hh, Bd.state]; rfl
  have N0 := Fr.nil n0
  refine own_pre (g' := mkF m 0 (lc6 p1) []) (ef_0 m p1) ?_
  refine own_go (U' := s₁.setTop (mkF m 1 (lc6 p1) [(.int p1)])) (fun t k => oiloadN X0 hx hby d1_0 rfl k) ?_
  refine own_go (U' := s₁.setTop (mkF m 10 (lc6 p1) [(.int 1), (.int p1)])) (fun t k => oifY (pc := 1) X0 hx hby d1_1 8 ((if0 _ _).trans (feq hc2).2) (by decide) (oiloadN X0 hx hby d1_8 rfl (oiconst X0 hx hby d1_9 k))) ?_
  refine own_go (U' := s₁.setTop (mkF m 19 (lc6 p1) [(.int 2), (.int p1)])) (fun t k => oicY (pc := 10) X0 hx hby d1_10 17 (feq hc3).2 (by decide) (oiloadN X0 hx hby d1_17 rfl (oiconst X0 hx hby d1_18 k))) ?_
  refine own_go (U' := s₁.setTop (mkF m 28 (lc6 p1) [(.int 3), (.int p1)])) (fun t k => oicY (pc := 19) X0 hx hby d1_19 26 (feq hc4).2 (by decide) (oiloadN X0 hx hby d1_26 rfl (oiconst X0 hx hby d1_27 k))) ?_
  refine own_go (U' := s₁.setTop (mkF m 37 (lc6 p1) [(.int 4), (.int p1)])) (fun t k => oicY (pc := 28) X0 hx hby d1_28 35 (feq hc5).2 (by decide) (oiloadN X0 hx hby d1_35 rfl (oiconst X0 hx hby d1_36 k))) ?_
  obtain ⟨T9, X9, e9, st9⟩ := getS2 X0 hx hZ hown (host := "") (Or.inl (ww hw 91 rfl)) Via.refl e0 F8 (g := (mkF m 40 (lc6 p1) [])) rfl (hb hby d1_40)
  refine own_go (U' := T9.setTop (mkF m 43 (lc6 p1) [(.ref a7)])) (fun t k => oicN X0 hx hby d1_37 (teq hc6).2 (st9 _ k)) ?_
  obtain ⟨fs, hr, hrun, hended, hW, hsame⟩ := X9.leave (v := some (.ref a7)) (fun h => by rw [Bd.returns] at h; cases h)
  refine own_out ⟨_, _, ?_, hrun, hended, _, _, rfl, ?_, ⟨_, rfl⟩, hW, hsame.mono (by decide) (by decide)⟩
  · exact retOut X9 hx Bd.returns rfl (Or.inr (Or.inr (Or.inr (Or.inr ⟨rfl, rfl, rfl⟩)))) (hb hby d1_43) hr
  · show Q1_4 Z p1 a7 a10 a12 a14 a16 a18 a20 a22 h0 n0 _ T9.heap _
    rw [e9]
    exact ⟨(by simp [own_pick, hc2, hc3, hc4, hc5, hc6]), N0, rfl⟩
def Q1_5 (Z : State) (p1 : Int32) (a8 a11 a13 a15 a17 a19 a21 a23 : Addr) (h0 : Heap) (n0 : Nat) (v : Option Value) (h : Heap) (L : List Loc) : Prop := v = some (.ref (own_pick p1 a11 a13 a15 a17 a19 a8 a21 a23)) ∧ Fr n0 L ∧ h = h0
set_option maxRecDepth 65536 in
set_option maxHeartbeats 40000000 in
theorem rm1_5 (l : Launch) (Z : State) (a0 : Array Value) (hw : ∀ d ∈ tables_1, d.before a0 Z = true) (ws : List Jvm.Cond) (p1 : Int32) (a8 a11 a13 a15 a17 a19 a21 a23 : Addr) (h0 : Heap) (n0 : Nat) (Z0 : n0 ≤ h0.size) (hc2 : ¬ (p1 = (0 : Int32))) (hc3 : ¬ (p1 = (1 : Int32))) (hc4 : ¬ (p1 = (2 : Int32))) (hc5 : ¬ (p1 = (3 : Int32))) (hc6 : ¬ (p1 = (4 : Int32))) (hc7 : p1 = (5 : Int32)) (F9 : Sta Z h0 zs0 zs7 zs2 (.ref a8)) (F12 : Sta Z h0 zs0 zs1 zs2 (.ref a11)) (F14 : Sta Z h0 zs0 zs3 zs2 (.ref a13)) (F16 : Sta Z h0 zs0 zs4 zs2 (.ref a15)) (F18 : Sta Z h0 zs0 zs5 zs2 (.ref a17)) (F20 : Sta Z h0 zs0 zs6 zs2 (.ref a19)) (F22 : Sta Z h0 zs0 zs8 zs2 (.ref a21)) (F24 : Sta Z h0 zs0 zs9 zs2 (.ref a23)) :
    MetFree l zm0 (head1 (Jvm.Cond.code zm0 method_2_code 1 (some (.object zs0)) :: ws) ({ frames := 0, cells := 0, slots := 0, locals := 0 } : Room)) (fun a U => a = #[(.int p1)] ∧ Z.Warmed39 U.vm ∧ U.heap = h0) (fun _ _ _ _ _ => True) (fun _ U o U' => ∃ v L, o = .returned v ∧ Q1_5 Z p1 a8 a11 a13 a15 a17 a19 a21 a23 h0 n0 v U'.heap L ∧ FrameEnd U o U' L ({ frames := 0, cells := 0, slots := 0, locals := 0 } : Room).cells ({ frames := 0, cells := 0, slots := 0, locals := 0 } : Room).slots) := by
  refine MetFree.of_bodySF (plainFor_of_name pn_0) hisR ?_
  intro p e s m args below meth c s₁ Bd hml0 hP hK
  obtain ⟨rfl, hZ, hh⟩ := hP
  have hx := Bd.exec
  have hby := Bd.bytes
  have hml : c.maxLocals = 1 := hml0
  have hown : s.vm.findClass zs10 = some m.cls := findClass_of_methodNamed Bd.named
  have hnm := (name_of_methodNamed Bd.named Bd.method).1
  have X0 : Stand p l e ({ frames := 0, cells := 0, slots := 0, locals := 0 } : Room) s m #[(.int p1)] below meth c s₁ [] 0 0 := Stand.of_body Bd
  have e0 : s₁.heap = h0 := by rw [← hh, Bd.state]; rfl
  have N0 := Fr.nil n0
  refine own_pre (g' := mkF m 0 (lc6 p1) []) (ef_0 m p1) ?_
  refine own_go (U' := s₁.setTop (mkF m 1 (lc6 p1) [(.int p1)])) (fun t k => oiloadN X0 hx hby d1_0 rfl k) ?_
  refine own_go (U' := s₁.setTop (mkF m 10 (lc6 p1) [(.int 1), (.int p1)])) (fun t k => oifY (pc := 1) X0 hx hby d1_1 8 ((if0 _ _).trans (feq hc2).2) (by decide) (oiloadN X0 hx hby d1_8 rfl (oiconst X0 hx hby d1_9 k))) ?_
  refine own_go (U' := s₁.setTop (mkF m 19 (lc6 p1) [(.int 2), (.int p1)])) (fun t k => oicY (pc := 10) X0 hx hby d1_10 17 (feq hc3).2 (by decide) (oiloadN X0 hx hby d1_17 rfl (oiconst X0 hx hby d1_18 k))) ?_
  refine own_go (U' := s₁.setTop (mkF m 28 (lc6 p1) [(.int 3), (.int p1)])) (fun t k => oicY (pc := 19) X0 hx hby d1_19 26 (feq hc4).2 (by decide) (oiloadN X0 hx hby d1_26 rfl (oiconst X0 hx hby d1_27 k))) ?_
  refine own_go (U' := s₁.setTop (mkF m 37 (lc6 p1) [(.int 4), (.int p1)])) (fun t k => oicY (pc := 28) X0 hx hby d1_28 35 (feq hc5).2 (by decide) (oiloadN X0 hx hby d1_35 rfl (oiconst X0 hx hby d1_36 k))) ?_
  refine own_go (U' := s₁.setTop (mkF m 46 (lc6 p1) [(.int 5), (.int p1)])) (fun t k => oicY (pc := 37) X0 hx hby d1_37 44 (feq hc6).2 (by decide) (oiloadN X0 hx hby d1_44 rfl (oiconst X0 hx hby d1_45 k))) ?_
  obtain ⟨T10, X10, e10, st10⟩ := getS2 X0 hx hZ hown (host := "") (Or.inl (ww hw 95 rfl)) Via.refl e0 F9 (g := (mkF m 49 (lc6 p1) [])) rfl (hb hby d1_49)
  refine own_go (U' := T10.setTop (mkF m 52 (lc6 p1) [(.ref a8)])) (fun t k => oicN X0 hx hby d1_46 (teq hc7).2 (st10 _ k)) ?_
  obtain ⟨fs, hr, hrun, hended, hW, hsame⟩ := X10.leave (v := some (.ref a8)) (fun h => by rw [Bd.returns] at h; cases h)
  refine own_out ⟨_, _, ?_, hrun, hended, _, _, rfl, ?_, ⟨_, rfl⟩, hW, hsame.mono (by decide) (by decide)⟩
  · exact retOut X10 hx Bd.returns rfl (Or.inr (Or.inr (Or.inr (Or.inr ⟨rfl, rfl, rfl⟩)))) (hb hby d1_52) hr
  · show Q1_5 Z p1 a8 a11 a13 a15 a17 a19 a21 a23 h0 n0 _ T10.heap _
    rw [e10]
    exact ⟨(by simp [own_pick, hc2, hc3, hc4, hc5, hc6, hc7]), N0, rfl⟩
def Q1_6 (Z : State) (p1 : Int32) (a9 a12 a14 a16 a18 a20 a22 a24 : Addr) (h0 : Heap) (n0 : Nat) (v : Option Value) (h : Heap) (L : List Loc) : Prop := v = some (.ref (own_pick p1 a12 a14 a16 a18 a20 a22 a9 a24)) ∧ Fr n0 L ∧ h = h0
set_option maxRecDepth 65536 in
set_option maxHeartbeats 40000000 in
theorem rm1_6 (l : Launch) (Z : State) (a0 : Array Value) (hw : ∀ d ∈ tables_1, d.before a0 Z = true) (ws : List Jvm.Cond) (p1 : Int32) (a9 a12 a14 a16 a18 a20 a22 a24 : Addr) (h0 : Heap) (n0 : Nat) (Z0 : n0 ≤ h0.size) (hc2 : ¬ (p1 = (0 : Int32))) (hc3 : ¬ (p1 = (1 : Int32))) (hc4 : ¬ (p1 = (2 : Int32))) (hc5 : ¬ (p1 = (3 : Int32))) (hc6 : ¬ (p1 = (4 : Int32))) (hc7 : ¬ (p1 = (5 : Int32))) (hc8 : p1 = (6 : Int32)) (F10 : Sta Z h0 zs0 zs8 zs2 (.ref a9)) (F13 : Sta Z h0 zs0 zs1 zs2 (.ref a12)) (F15 : Sta Z h0 zs0 zs3 zs2 (.ref a14)) (F17 : Sta Z h0 zs0 zs4 zs2 (.ref a16)) (F19 : Sta Z h0 zs0 zs5 zs2 (.ref a18)) (F21 : Sta Z h0 zs0 zs6 zs2 (.ref a20)) (F23 : Sta Z h0 zs0 zs7 zs2 (.ref a22)) (F25 : Sta Z h0 zs0 zs9 zs2 (.ref a24)) :
    MetFree l zm0 (head1 (Jvm.Cond.code zm0 method_2_code 1 (some (.object zs0)) :: ws) ({ frames := 0, cells := 0, slots := 0, locals := 0 } : Room)) (fun a U => a = #[(.int p1)] ∧ Z.Warmed39 U.vm ∧ U.heap = h0) (fun _ _ _ _ _ => True) (fun _ U o U' => ∃ v L, o = .returned v ∧ Q1_6 Z p1 a9 a12 a14 a16 a18 a20 a22 a24 h0 n0 v U'.heap L ∧ FrameEnd U o U' L ({ frames := 0, cells := 0, slots := 0, locals := 0 } : Room).cells ({ frames := 0, cells := 0, slots := 0, locals := 0 } : Room).slots) := by
  refine MetFree.of_bodySF (plainFor_of_name pn_0) hisR ?_
  intro p e s m args below meth c s₁ Bd hml0 hP hK
  obtain ⟨rfl, hZ, hh⟩ := hP
  have hx := Bd.exec
  have hby := Bd.bytes
  have hml : c.maxLocals = 1 := hml0
  have hown : s.vm.findClass zs10 = some m.cls := findClass_of_methodNamed Bd.named
  have hnm := (name_of_methodNamed Bd.named Bd.method).1
  have X0 : Stand p l e ({ frames := 0, cells := 0, slots := 0, locals := 0 } : Room) s m #[(.int p1)] below meth c s₁ [] 0 0 := Stand.of_body Bd
  have e0 : s₁.heap = h0 := by rw [← hh, Bd.state]; rfl
  have N0 := Fr.nil n0
  refine own_pre (g' := mkF m 0 (lc6 p1) []) (ef_0 m p1) ?_
  refine own_go (U' := s₁.setTop (mkF m 1 (lc6 p1) [(.int p1)])) (fun t k => oiloadN X0 hx hby d1_0 rfl k) ?_
  refine own_go (U' := s₁.setTop (mkF m 10 (lc6 p1) [(.int 1), (.int p1)])) (fun t k => oifY (pc := 1) X0 hx hby d1_1 8 ((if0 _ _).trans (feq hc2).2) (by decide) (oiloadN X0 hx hby d1_8 rfl (oiconst X0 hx hby d1_9 k))) ?_
  refine own_go (U' := s₁.setTop (mkF m 19 (lc6 p1) [(.int 2), (.int p1)])) (fun t k => oicY (pc := 10) X0 hx hby d1_10 17 (feq hc3).2 (by decide) (oiloadN X0 hx hby d1_17 rfl (oiconst X0 hx hby d1_18 k))) ?_
  refine own_go (U' := s₁.setTop (mkF m 28 (lc6 p1) [(.int 3), (.int p1)])) (fun t k => oicY (pc := 19) X0 hx hby d1_19 26 (feq hc4).2 (by decide) (oiloadN X0 hx hby d1_26 rfl (oiconst X0 hx hby d1_27 k))) ?_
  refine own_go (U' := s₁.setTop (mkF m 37 (lc6 p1) [(.int 4), (.int p1)])) (fun t k => oicY (pc := 28) X0 hx hby d1_28 35 (feq hc5).2 (by decide) (oiloadN X0 hx hby d1_35 rfl (oiconst X0 hx hby d1_36 k))) ?_
  refine own_go (U' := s₁.setTop (mkF m 46 (lc6 p1) [(.int 5), (.int p1)])) (fun t k => oicY (pc := 37) X0 hx hby d1_37 44 (feq hc6).2 (by decide) (oiloadN X0 hx hby d1_44 rfl (oiconst X0 hx hby d1_45 k))) ?_
  refine own_go (U' := s₁.setTop (mkF m 56 (lc6 p1) [(.int 6), (.int p1)])) (fun t k => oicY (pc := 46) X0 hx hby d1_46 53 (feq hc7).2 (by decide) (oiloadN X0 hx hby d1_53 rfl (obipush X0 hx hby d1_54 k))) ?_
  obtain ⟨T11, X11, e11, st11⟩ := getS2 X0 hx hZ hown (host := "") (Or.inl (ww hw 93 rfl)) Via.refl e0 F10 (g := (mkF m 59 (lc6 p1) [])) rfl (hb hby d1_59)
  refine own_go (U' := T11.setTop (mkF m 62 (lc6 p1) [(.ref a9)])) (fun t k => oicN X0 hx hby d1_56 (teq hc8).2 (st11 _ k)) ?_
  obtain ⟨fs, hr, hrun, hended, hW, hsame⟩ := X11.leave (v := some (.ref a9)) (fun h => by rw [Bd.returns] at h; cases h)
  refine own_out ⟨_, _, ?_, hrun, hended, _, _, rfl, ?_, ⟨_, rfl⟩, hW, hsame.mono (by decide) (by decide)⟩
  · exact retOut X11 hx Bd.returns rfl (Or.inr (Or.inr (Or.inr (Or.inr ⟨rfl, rfl, rfl⟩)))) (hb hby d1_62) hr
  · show Q1_6 Z p1 a9 a12 a14 a16 a18 a20 a22 a24 h0 n0 _ T11.heap _
    rw [e11]
    exact ⟨(by simp [own_pick, hc2, hc3, hc4, hc5, hc6, hc7, hc8]), N0, rfl⟩
def Q1_7 (Z : State) (p1 : Int32) (a9 a12 a14 a16 a18 a20 a22 a24 : Addr) (h0 : Heap) (n0 : Nat) (v : Option Value) (h : Heap) (L : List Loc) : Prop := v = some (.ref (own_pick p1 a12 a14 a16 a18 a20 a22 a24 a9)) ∧ Fr n0 L ∧ h = h0
set_option maxRecDepth 65536 in
set_option maxHeartbeats 40000000 in
theorem rm1_7 (l : Launch) (Z : State) (a0 : Array Value) (hw : ∀ d ∈ tables_1, d.before a0 Z = true) (ws : List Jvm.Cond) (p1 : Int32) (a9 a12 a14 a16 a18 a20 a22 a24 : Addr) (h0 : Heap) (n0 : Nat) (Z0 : n0 ≤ h0.size) (hc2 : ¬ (p1 = (0 : Int32))) (hc3 : ¬ (p1 = (1 : Int32))) (hc4 : ¬ (p1 = (2 : Int32))) (hc5 : ¬ (p1 = (3 : Int32))) (hc6 : ¬ (p1 = (4 : Int32))) (hc7 : ¬ (p1 = (5 : Int32))) (hc8 : ¬ (p1 = (6 : Int32))) (F10 : Sta Z h0 zs0 zs9 zs2 (.ref a9)) (F13 : Sta Z h0 zs0 zs1 zs2 (.ref a12)) (F15 : Sta Z h0 zs0 zs3 zs2 (.ref a14)) (F17 : Sta Z h0 zs0 zs4 zs2 (.ref a16)) (F19 : Sta Z h0 zs0 zs5 zs2 (.ref a18)) (F21 : Sta Z h0 zs0 zs6 zs2 (.ref a20)) (F23 : Sta Z h0 zs0 zs7 zs2 (.ref a22)) (F25 : Sta Z h0 zs0 zs8 zs2 (.ref a24)) :
    MetFree l zm0 (head1 (Jvm.Cond.code zm0 method_2_code 1 (some (.object zs0)) :: ws) ({ frames := 0, cells := 0, slots := 0, locals := 0 } : Room)) (fun a U => a = #[(.int p1)] ∧ Z.Warmed39 U.vm ∧ U.heap = h0) (fun _ _ _ _ _ => True) (fun _ U o U' => ∃ v L, o = .returned v ∧ Q1_7 Z p1 a9 a12 a14 a16 a18 a20 a22 a24 h0 n0 v U'.heap L ∧ FrameEnd U o U' L ({ frames := 0, cells := 0, slots := 0, locals := 0 } : Room).cells ({ frames := 0, cells := 0, slots := 0, locals := 0 } : Room).slots) := by
  refine MetFree.of_bodySF (plainFor_of_name pn_0) hisR ?_
  intro p e s m args below meth c s₁ Bd hml0 hP hK
  obtain ⟨rfl, hZ, hh⟩ := hP
  have hx := Bd.exec
  have hby := Bd.bytes
  have hml : c.maxLocals = 1 := hml0
  have hown : s.vm.findClass zs10 = some m.cls := findClass_of_methodNamed Bd.named
  have hnm := (name_of_methodNamed Bd.named Bd.method).1
  have X0 : Stand p l e ({ frames := 0, cells := 0, slots := 0, locals := 0 } : Room) s m #[(.int p1)] below meth c s₁ [] 0 0 := Stand.of_body Bd
  have e0 : s₁.heap = h0 := by rw [← hh, Bd.state]; rfl
  have N0 := Fr.nil n0
  refine own_pre (g' := mkF m 0 (lc6 p1) []) (ef_0 m p1) ?_
  refine own_go (U' := s₁.setTop (mkF m 1 (lc6 p1) [(.int p1)])) (fun t k => oiloadN X0 hx hby d1_0 rfl k) ?_
  refine own_go (U' := s₁.setTop (mkF m 10 (lc6 p1) [(.int 1), (.int p1)])) (fun t k => oifY (pc := 1) X0 hx hby d1_1 8 ((if0 _ _).trans (feq hc2).2) (by decide) (oiloadN X0 hx hby d1_8 rfl (oiconst X0 hx hby d1_9 k))) ?_
  refine own_go (U' := s₁.setTop (mkF m 19 (lc6 p1) [(.int 2), (.int p1)])) (fun t k => oicY (pc := 10) X0 hx hby d1_10 17 (feq hc3).2 (by decide) (oiloadN X0 hx hby d1_17 rfl (oiconst X0 hx hby d1_18 k))) ?_
  refine own_go (U' := s₁.setTop (mkF m 28 (lc6 p1) [(.int 3), (.int p1)])) (fun t k => oicY (pc := 19) X0 hx hby d1_19 26 (feq hc4).2 (by decide) (oiloadN X0 hx hby d1_26 rfl (oiconst X0 hx hby d1_27 k))) ?_
  refine own_go (U' := s₁.setTop (mkF m 37 (lc6 p1) [(.int 4), (.int p1)])) (fun t k => oicY (pc := 28) X0 hx hby d1_28 35 (feq hc5).2 (by decide) (oiloadN X0 hx hby d1_35 rfl (oiconst X0 hx hby d1_36 k))) ?_
  refine own_go (U' := s₁.setTop (mkF m 46 (lc6 p1) [(.int 5), (.int p1)])) (fun t k => oicY (pc := 37) X0 hx hby d1_37 44 (feq hc6).2 (by decide) (oiloadN X0 hx hby d1_44 rfl (oiconst X0 hx hby d1_45 k))) ?_
  refine own_go (U' := s₁.setTop (mkF m 56 (lc6 p1) [(.int 6), (.int p1)])) (fun t k => oicY (pc := 46) X0 hx hby d1_46 53 (feq hc7).2 (by decide) (oiloadN X0 hx hby d1_53 rfl (obipush X0 hx hby d1_54 k))) ?_
  obtain ⟨T11, X11, e11, st11⟩ := getS2 X0 hx hZ hown (host := "") (Or.inl (ww hw 92 rfl)) Via.refl e0 F10 (g := (mkF m 63 (lc6 p1) [])) rfl (hb hby d1_63)
  refine own_go (U' := T11.setTop (mkF m 66 (lc6 p1) [(.ref a9)])) (fun t k => oicY (pc := 56) X0 hx hby d1_56 63 (feq hc8).2 (by decide) (st11 _ k)) ?_
  obtain ⟨fs, hr, hrun, hended, hW, hsame⟩ := X11.leave (v := some (.ref a9)) (fun h => by rw [Bd.returns] at h; cases h)
  refine own_out ⟨_, _, ?_, hrun, hended, _, _, rfl, ?_, ⟨_, rfl⟩, hW, hsame.mono (by decide) (by decide)⟩
  · exact retOut X11 hx Bd.returns rfl (Or.inr (Or.inr (Or.inr (Or.inr ⟨rfl, rfl, rfl⟩)))) (hb hby d1_66) hr
  · show Q1_7 Z p1 a9 a12 a14 a16 a18 a20 a22 a24 h0 n0 _ T11.heap _
    rw [e11]
    exact ⟨(by simp [own_pick, hc2, hc3, hc4, hc5, hc6, hc7, hc8]), N0, rfl⟩
def Qmg1_8 (Z : State) (p1 : Int32) (a2 a4 a6 a8 a10 a12 a14 a16 : Addr) (h0 : Heap) (n0 : Nat) (v : Option Value) (h : Heap) (L : List Loc) : Prop := v = some (.ref (own_pick p1 a2 a4 a6 a8 a10 a12 a14 a16)) ∧ Fr n0 L ∧ h = h0
theorem mg1_8 (l : Launch) (Z : State) (a0 : Array Value) (hw : ∀ d ∈ tables_1, d.before a0 Z = true) (ws : List Jvm.Cond) (p1 : Int32) (a2 a4 a6 a8 a10 a12 a14 a16 : Addr) (h0 : Heap) (n0 : Nat) (Z0 : n0 ≤ h0.size) (F3 : Sta Z h0 zs0 zs1 zs2 (.ref a2)) (F5 : Sta Z h0 zs0 zs3 zs2 (.ref a4)) (F7 : Sta Z h0 zs0 zs4 zs2 (.ref a6)) (F9 : Sta Z h0 zs0 zs5 zs2 (.ref a8)) (F11 : Sta Z h0 zs0 zs6 zs2 (.ref a10)) (F13 : Sta Z h0 zs0 zs7 zs2 (.ref a12)) (F15 : Sta Z h0 zs0 zs8 zs2 (.ref a14)) (F17 : Sta Z h0 zs0 zs9 zs2 (.ref a16)) :
    MetFree l zm0 (head1 (Jvm.Cond.code zm0 method_2_code 1 (some (.object zs0)) :: ws) ({ frames := 0, cells := 0, slots := 0, locals := 0 } : Room)) (fun a U => a = #[(.int p1)] ∧ Z.Warmed39 U.vm ∧ U.heap = h0) (fun _ _ _ _ _ => True) (fun _ U o U' => ∃ v L, o = .returned v ∧ Qmg1_8 Z p1 a2 a4 a6 a8 a10 a12 a14 a16 h0 n0 v U'.heap L ∧ FrameEnd U o U' L ({ frames := 0, cells := 0, slots := 0, locals := 0 } : Room).cells ({ frames := 0, cells := 0, slots := 0, locals := 0 } : Room).slots) := by
  by_cases hm1 : p1 = (0 : Int32)
  · exact rm1_0 l Z a0 hw ws p1 a2 a4 a6 a8 a10 a12 a14 a16 h0 n0 Z0 hm1 F3 F5 F7 F9 F11 F13 F15 F17
  · by_cases hm2 : p1 = (1 : Int32)
    · exact rm1_1 l Z a0 hw ws p1 a4 a2 a6 a8 a10 a12 a14 a16 h0 n0 Z0 hm1 hm2 F5 F3 F7 F9 F11 F13 F15 F17
    · by_cases hm3 : p1 = (2 : Int32)
      · exact rm1_2 l Z a0 hw ws p1 a6 a2 a4 a8 a10 a12 a14 a16 h0 n0 Z0 hm1 hm2 hm3 F7 F3 F5 F9 F11 F13 F15 F17
      · by_cases hm4 : p1 = (3 : Int32)
        · exact rm1_3 l Z a0 hw ws p1 a8 a2 a4 a6 a10 a12 a14 a16 h0 n0 Z0 hm1 hm2 hm3 hm4 F9 F3 F5 F7 F11 F13 F15 F17
        · by_cases hm5 : p1 = (4 : Int32)
          · exact rm1_4 l Z a0 hw ws p1 a10 a2 a4 a6 a8 a12 a14 a16 h0 n0 Z0 hm1 hm2 hm3 hm4 hm5 F11 F3 F5 F7 F9 F13 F15 F17
          · by_cases hm6 : p1 = (5 : Int32)
            · exact rm1_5 l Z a0 hw ws p1 a12 a2 a4 a6 a8 a10 a14 a16 h0 n0 Z0 hm1 hm2 hm3 hm4 hm5 hm6 F13 F3 F5 F7 F9 F11 F15 F17
            · by_cases hm7 : p1 = (6 : Int32)
              · exact rm1_6 l Z a0 hw ws p1 a14 a2 a4 a6 a8 a10 a12 a16 h0 n0 Z0 hm1 hm2 hm3 hm4 hm5 hm6 hm7 F15 F3 F5 F7 F9 F11 F13 F17
              · exact rm1_7 l Z a0 hw ws p1 a16 a2 a4 a6 a8 a10 a12 a14 h0 n0 Z0 hm1 hm2 hm3 hm4 hm5 hm6 hm7 F17 F3 F5 F7 F9 F11 F13 F15
def Q4_9 (Z : State) (a1 a5 a6 a7 a8 a9 a10 a11 a12 : Addr) (kc13 : ClassId) (h0 : Heap) (n0 : Nat) (v : Option Value) (h : Heap) (L : List Loc) : Prop := ∃ b4 : Addr, v = some (.ref b4) ∧ Fr n0 L ∧ Keep h0 h [] ∧ h0.size ≤ b4 ∧ Exa Z h b4 zs12 ∧ Arv Z h b4 kc13 (.object zs0) (8 : Int32) [(.ref a5), (.ref a6), (.ref a7), (.ref a8), (.ref a9), (.ref a10), (.ref a11), (.ref a12)] .null
set_option maxRecDepth 65536 in
set_option maxHeartbeats 40000000 in
theorem rm4_9 (l : Launch) (Z : State) (a0 : Array Value) (hw : ∀ d ∈ tables_1, d.before a0 Z = true) (ws : List Jvm.Cond) (a1 a5 a6 a7 a8 a9 a10 a11 a12 : Addr) (kc13 : ClassId) (h0 : Heap) (n0 : Nat) (Z0 : n0 ≤ h0.size) (F2 : Sta Z h0 zs0 "$VALUES" zs12 (.ref a1)) (F14 : Arv Z h0 a1 kc13 (.object zs0) (8 : Int32) [(.ref a5), (.ref a6), (.ref a7), (.ref a8), (.ref a9), (.ref a10), (.ref a11), (.ref a12)] .null) (F15 : Exa Z h0 a1 zs12) :
    MetFree l zm1 (head1 (Jvm.Cond.code zm1 prog_26_method_1_code 0 (some (.array (.object zs0))) :: ws) ({ frames := 1, cells := 1, slots := 8, locals := 14 } : Room)) (fun a U => a = #[] ∧ Z.Warmed39 U.vm ∧ U.heap = h0) (fun _ _ _ _ _ => True) (fun _ U o U' => ∃ v L, o = .returned v ∧ Q4_9 Z a1 a5 a6 a7 a8 a9 a10 a11 a12 kc13 h0 n0 v U'.heap L ∧ FrameEnd U o U' L ({ frames := 1, cells := 1, slots := 8, locals := 14 } : Room).cells ({ frames := 1, cells := 1, slots := 8, locals := 14 } : Room).slots) := by
  refine MetFree.of_bodySF (plainFor_of_name pn_1) hisR ?_
  intro p e s m args below meth c s₁ Bd hml0 hP hK
  obtain ⟨rfl, hZ, hh⟩ := hP
  have hx := Bd.exec
  have hby := Bd.bytes
  have hml : c.maxLocals = 0 := hml0
  have hown : s.vm.findClass zs0 = some m.cls := findClass_of_methodNamed Bd.named
  have hnm := (name_of_methodNamed Bd.named Bd.method).1
  have X0 : Stand p l e ({ frames := 1, cells := 1, slots := 8, locals := 14 } : Room) s m #[] below meth c s₁ [] 0 0 := Stand.of_body Bd
  have e0 : s₁.heap = h0 := by rw [← hh, Bd.state]; rfl
  have N0 := Fr.nil n0
  refine own_pre (g' := mkF m 0 lc11 []) (ef_1 m ) ?_
  obtain ⟨T3, X3, e3, st3⟩ := getS2 X0 hx hZ hown (host := "") (Or.inl (ww hw 23 rfl)) Via.refl e0 F2 (g := (mkF m 0 lc11 [])) rfl (hb hby d4_0)
  obtain ⟨T4, h4, X4, e4, E4, A4, B4, st4⟩ := cloneH X3 hx hZ hown (ww hw 25 rfl) (ww hw 26 rfl) (ww hw 30 rfl) (ww hw 28 rfl) (ww hw 29 rfl) (ww hw 31 rfl) e3 (Arv.arh F14) F15 (g := (mkF m 3 lc11 [(.ref a1)])) rfl (by rw [hml]; rfl) rfl (hb hby d4_3) (by decide) (W := 0) (cap := 8) (by show 2 * 0 + _ ≤ _; exact Nat.le_of_eq rfl) (by decide) (by decide) (by decide) (by decide)
  obtain ⟨b4, g4⟩ : ∃ z, z = h0.size := ⟨_, rfl⟩
  rw [← g4] at A4 B4 st4
  have f16 : Arv Z h4 b4 kc13 (.object zs0) (8 : Int32) [(.ref a5), (.ref a6), (.ref a7), (.ref a8), (.ref a9), (.ref a10), (.ref a11), (.ref a12)] .null := A4
  obtain ⟨T17, X17, e17, st17⟩ := castY X4 hx hZ hown (ww hw 38 rfl) e4 (Ins.self B4) (g := (mkF m 6 lc11 [(.ref b4)])) rfl rfl (hb hby d4_6)
  refine own_go (U' := T17.setTop (mkF m 9 lc11 [(.ref b4)])) (fun t k => st3 _ (st4 _ (st17 _ k))) ?_
  obtain ⟨fs, hr, hrun, hended, hW, hsame⟩ := X17.leave (v := some (.ref b4)) (fun h => by rw [Bd.returns] at h; cases h)
  refine own_out ⟨_, _, ?_, hrun, hended, _, _, rfl, ?_, ⟨_, rfl⟩, hW, hsame.mono (by decide) (by decide)⟩
  · exact retOut X17 hx Bd.returns rfl (Or.inr (Or.inr (Or.inr (Or.inr ⟨rfl, rfl, rfl⟩)))) (hb hby d4_9) hr
  · show Q4_9 Z a1 a5 a6 a7 a8 a9 a10 a11 a12 kc13 h0 n0 _ T17.heap _
    rw [e17]
    exact ⟨b4, rfl, N0, ((Keep.refl h0 []).ext E4), (Nat.le_of_eq g4.symm), B4, f16⟩
def Q7_10 (Z : State) (a1 : Addr) (h0 : Heap) (n0 : Nat) (v : Option Value) (h : Heap) (L : List Loc) : Prop := v = none ∧ Fr n0 L ∧ h = h0
set_option maxRecDepth 65536 in
set_option maxHeartbeats 40000000 in
theorem rm7_10 (l : Launch) (Z : State) (a0 : Array Value) (hw : ∀ d ∈ tables_1, d.before a0 Z = true) (ws : List Jvm.Cond) (a1 : Addr) (h0 : Heap) (n0 : Nat) (Z0 : n0 ≤ h0.size) :
    MetFree l zm2 (head1 (Jvm.Cond.code zm2 jdk_22_method_1_code 1 none :: ws) ({ frames := 1, cells := 0, slots := 0, locals := 12 } : Room)) (fun a U => a = #[(.ref a1)] ∧ Z.Warmed39 U.vm ∧ U.heap = h0) (fun _ _ _ _ _ => True) (fun _ U o U' => ∃ v L, o = .returned v ∧ Q7_10 Z a1 h0 n0 v U'.heap L ∧ FrameEnd U o U' L ({ frames := 1, cells := 0, slots := 0, locals := 12 } : Room).cells ({ frames := 1, cells := 0, slots := 0, locals := 12 } : Room).slots) := by
  refine MetFree.of_bodySF (plainFor_of_name pn_2) hisR ?_
  intro p e s m args below meth c s₁ Bd hml0 hP hK
  obtain ⟨rfl, hZ, hh⟩ := hP
  have hx := Bd.exec
  have hby := Bd.bytes
  have hml : c.maxLocals = 1 := hml0
  have hown : s.vm.findClass zs14 = some m.cls := findClass_of_methodNamed Bd.named
  have hnm := (name_of_methodNamed Bd.named Bd.method).1
  have X0 : Stand p l e ({ frames := 1, cells := 0, slots := 0, locals := 12 } : Room) s m #[(.ref a1)] below meth c s₁ [] 0 0 := Stand.of_body Bd
  have e0 : s₁.heap = h0 := by rw [← hh, Bd.state]; rfl
  have N0 := Fr.nil n0
  refine own_pre (g' := mkF m 0 (lc10 a1) []) (ef_2 m a1) ?_
  obtain ⟨T2, X2, e2, st2⟩ := initO X0 hx hZ hown (ww hw 61 rfl) (ww hw 18 rfl) (ww hw 19 rfl) e0 (g := (mkF m 1 (lc10 a1) [(.ref a1)])) rfl (by rw [hml]; rfl) rfl (hb hby d7_1) (by decide) (W := 0) (by show 2 * 0 + _ ≤ _; exact Nat.le_of_eq rfl) (by decide)
  refine own_go (U' := T2.setTop (mkF m 4 (lc10 a1) [])) (fun t k => oaloadN X0 hx hby d7_0 rfl rfl (st2 _ k)) ?_
  obtain ⟨fs, hr, hrun, hended, hW, hsame⟩ := X2.leave (v := none) (fun _ => rfl)
  refine own_out ⟨_, _, ?_, hrun, hended, _, _, rfl, ?_, ⟨_, rfl⟩, hW, hsame.mono (by decide) (by decide)⟩
  · exact X2.returnOut hx Bd.returns (hb hby d7_4) hr
  · show Q7_10 Z a1 h0 n0 _ T2.heap _
    rw [e2]
    exact ⟨rfl, N0, rfl⟩
def Q6_11 (Z : State) (a1 : Addr) (h0 : Heap) (n0 : Nat) (v : Option Value) (h : Heap) (L : List Loc) : Prop := v = none ∧ Fr n0 L ∧ Keep h0 h [a1] ∧ Fld Z h a1 zs15 zs16 "I" (.int 0) ∧ Fld Z h a1 zs17 zs18 zs19 .null
set_option maxRecDepth 65536 in
set_option maxHeartbeats 40000000 in
theorem rm6_11 (l : Launch) (Z : State) (a0 : Array Value) (hw : ∀ d ∈ tables_1, d.before a0 Z = true) (ws : List Jvm.Cond) (a1 : Addr) (h0 : Heap) (n0 : Nat) (Z0 : n0 ≤ h0.size) (F4 : Fld Z h0 a1 zs15 zs16 "I" (.int 0)) (F5 : Fld Z h0 a1 zs17 zs18 zs19 .null) (F6 : Exa Z h0 a1 zs17) (g8 : n0 ≤ a1) :
    MetFree l zm3 (head1 (Jvm.Cond.code zm3 jdk_39_method_1_code 1 none :: ws) ({ frames := 2, cells := 0, slots := 0, locals := 24 } : Room)) (fun a U => a = #[(.ref a1)] ∧ Z.Warmed39 U.vm ∧ U.heap = h0) (fun _ _ _ _ _ => True) (fun _ U o U' => ∃ v L, o = .returned v ∧ Q6_11 Z a1 h0 n0 v U'.heap L ∧ FrameEnd U o U' L ({ frames := 2, cells := 0, slots := 0, locals := 24 } : Room).cells ({ frames := 2, cells := 0, slots := 0, locals := 24 } : Room).slots) := by
  refine MetFree.of_bodySF (plainFor_of_name pn_3) hisR ?_
  intro p e s m args below meth c s₁ Bd hml0 hP hK
  obtain ⟨rfl, hZ, hh⟩ := hP
  have hx := Bd.exec
  have hby := Bd.bytes
  have hml : c.maxLocals = 1 := hml0
  have hown : s.vm.findClass zs15 = some m.cls := findClass_of_methodNamed Bd.named
  have hnm := (name_of_methodNamed Bd.named Bd.method).1
  have X0 : Stand p l e ({ frames := 2, cells := 0, slots := 0, locals := 24 } : Room) s m #[(.ref a1)] below meth c s₁ [] 0 0 := Stand.of_body Bd
  have e0 : s₁.heap = h0 := by rw [← hh, Bd.state]; rfl
  have N0 := Fr.nil n0
  refine own_pre (g' := mkF m 0 (lc10 a1) []) (ef_2 m a1) ?_
  obtain ⟨_, T2, L2, X2, hQ2, st2⟩ := ocallI X0 hx hZ zm2 rfl hown (ww hw 55 rfl) (ww hw 56 rfl) (by decide) (ww hw 60 rfl) (ww hw 59 rfl) e0 (rm7_10 l Z a0 hw [] a1 h0 n0 Z0 ) (st := [(.ref a1)]) rfl 0 rfl (by decide) (pc := 1) (Ls := (lc10 a1)) hml rfl (lenOf pd_2 rfl) d6_1 hby
  obtain ⟨rfl, N2q, e2⟩ := hQ2
  have N3 := Fr.app N0 N2q
  obtain ⟨T7, h7, X7, e7, W7, st7⟩ := putF X2 hx hZ hown (host := "") (Or.inl (ww hw 62 rfl)) Via.refl e2 F4 F6 (Or.inl (ww hw 63 rfl)) (ww hw 44 rfl) (ty := .int) (by decide) rfl rfl (g := (mkF m 6 (lc10 a1) [(.int 0), (.ref a1)])) rfl rfl (hb hby d6_6)
  have N9 := Fr.snoc X7 N3 g8
  have f10 : Fld Z h7 a1 zs15 zs16 "I" (.int 0) := Fld.same W7 F4
  refine own_go (U' := T7.setTop (mkF m 9 (lc10 a1) [])) (fun t k => oaloadN X0 hx hby d6_0 rfl rfl (st2 _ (oaloadN X2 hx hby d6_4 rfl rfl (oiconst X2 hx hby d6_5 (st7 _ k))))) ?_
  have f11 : Fld Z h7 a1 zs17 zs18 zs19 .null := (Fld.other W7 F5 (Or.inr (slot_ne (Or.inl (ww hw 66 rfl)) (Or.inl (ww hw 63 rfl)) (by decide) (t := (.array (.object zs20))) (t' := .int) (by decide) (by decide))))
  obtain ⟨fs, hr, hrun, hended, hW, hsame⟩ := X7.leave (v := none) (fun _ => rfl)
  refine own_out ⟨_, _, ?_, hrun, hended, _, _, rfl, ?_, ⟨_, rfl⟩, hW, hsame.mono (by decide) (by decide)⟩
  · exact X7.returnOut hx Bd.returns (hb hby d6_9) hr
  · show Q6_11 Z a1 h0 n0 _ T7.heap _
    rw [e7]
    exact ⟨rfl, N9, ((Keep.refl h0 [a1]).wr W7 (Or.inl (List.mem_of_getElem? (i := 0) rfl))), f10, f11⟩
def Q5_12 (Z : State) (a1 a10 : Addr) (h0 : Heap) (n0 : Nat) (v : Option Value) (h : Heap) (L : List Loc) : Prop := v = none ∧ Fr n0 L ∧ Keep h0 h [a1] ∧ Fld Z h a1 zs15 zs16 "I" (.int 0) ∧ Fld Z h a1 zs17 zs18 zs19 (.ref a10)
set_option maxRecDepth 65536 in
set_option maxHeartbeats 40000000 in
theorem rm5_12 (l : Launch) (Z : State) (a0 : Array Value) (hw : ∀ d ∈ tables_1, d.before a0 Z = true) (ws : List Jvm.Cond) (a1 a10 : Addr) (h0 : Heap) (n0 : Nat) (Z0 : n0 ≤ h0.size) (F3 : Fld Z h0 a1 zs15 zs16 "I" (.int 0)) (F4 : Fld Z h0 a1 zs17 zs18 zs19 .null) (F5 : Exa Z h0 a1 zs17) (g6 : n0 ≤ a1) (F11 : Sta Z h0 zs17 zs21 zs19 (.ref a10)) :
    MetFree l zm4 (head1 (Jvm.Cond.code zm4 jdk_38_method_2_code 1 none :: ws) ({ frames := 3, cells := 0, slots := 0, locals := 36 } : Room)) (fun a U => a = #[(.ref a1)] ∧ Z.Warmed39 U.vm ∧ U.heap = h0) (fun _ _ _ _ _ => True) (fun _ U o U' => ∃ v L, o = .returned v ∧ Q5_12 Z a1 a10 h0 n0 v U'.heap L ∧ FrameEnd U o U' L ({ frames := 3, cells := 0, slots := 0, locals := 36 } : Room).cells ({ frames := 3, cells := 0, slots := 0, locals := 36 } : Room).slots) := by
  refine MetFree.of_bodySF (plainFor_of_name pn_4) hisR ?_
  intro p e s m args below meth c s₁ Bd hml0 hP hK
  obtain ⟨rfl, hZ, hh⟩ := hP
  have hx := Bd.exec
  have hby := Bd.bytes
  have hml : c.maxLocals = 1 := hml0
  have hown : s.vm.findClass zs17 = some m.cls := findClass_of_methodNamed Bd.named
  have hnm := (name_of_methodNamed Bd.named Bd.method).1
  have X0 : Stand p l e ({ frames := 3, cells := 0, slots := 0, locals := 36 } : Room) s m #[(.ref a1)] below meth c s₁ [] 0 0 := Stand.of_body Bd
  have e0 : s₁.heap = h0 := by rw [← hh, Bd.state]; rfl
  have N0 := Fr.nil n0
  refine own_pre (g' := mkF m 0 (lc10 a1) []) (ef_2 m a1) ?_
  obtain ⟨_, T2, L2, X2, hQ2, st2⟩ := ocallI X0 hx hZ zm3 rfl hown (ww hw 49 rfl) (ww hw 50 rfl) (by decide) (ww hw 54 rfl) (ww hw 53 rfl) e0 (rm6_11 l Z a0 hw [] a1 h0 n0 Z0 F3 F4 F5 g6) (st := [(.ref a1)]) rfl 0 rfl (by decide) (pc := 1) (Ls := (lc10 a1)) hml rfl (lenOf pd_2 rfl) d5_1 hby
  obtain ⟨rfl, N2q, K2, f7, f8⟩ := hQ2
  have N9 := Fr.app N0 N2q
  have f12 : Sta Z T2.heap zs17 zs21 zs19 (.ref a10) := (own_staK F11 K2 (allS (own_nsE F5) all0))
  obtain ⟨T13, X13, e13, st13⟩ := getS2 X2 hx hZ hown (host := "") (Or.inl (ww hw 64 rfl)) Via.refl rfl f12 (g := (mkF m 5 (lc10 a1) [(.ref a1)])) rfl (hb hby d5_5)
  have f14 : Exa Z T2.heap a1 zs17 := (F5.keep K2)
  obtain ⟨T15, h15, X15, e15, W15, st15⟩ := putF X13 hx hZ hown (host := "") (Or.inl (ww hw 65 rfl)) Via.refl e13 f8 f14 (Or.inl (ww hw 66 rfl)) (ww hw 44 rfl) (ty := (.array (.object zs20))) (by decide) rfl rfl (g := (mkF m 8 (lc10 a1) [(.ref a10), (.ref a1)])) rfl rfl (hb hby d5_8)
  have N16 := Fr.snoc X15 N9 g6
  have f17 : Fld Z h15 a1 zs17 zs18 zs19 (.ref a10) := Fld.same W15 f8
  refine own_go (U' := T15.setTop (mkF m 11 (lc10 a1) [])) (fun t k => oaloadN X0 hx hby d5_0 rfl rfl (st2 _ (oaloadN X2 hx hby d5_4 rfl rfl (st13 _ (st15 _ k))))) ?_
  have f18 : Fld Z h15 a1 zs15 zs16 "I" (.int 0) := (Fld.other W15 f7 (Or.inr (slot_ne (Or.inl (ww hw 63 rfl)) (Or.inl (ww hw 66 rfl)) (by decide) (t := .int) (t' := (.array (.object zs20))) (by decide) (by decide))))
  obtain ⟨fs, hr, hrun, hended, hW, hsame⟩ := X15.leave (v := none) (fun _ => rfl)
  refine own_out ⟨_, _, ?_, hrun, hended, _, _, rfl, ?_, ⟨_, rfl⟩, hW, hsame.mono (by decide) (by decide)⟩
  · exact X15.returnOut hx Bd.returns (hb hby d5_11) hr
  · show Q5_12 Z a1 a10 h0 n0 _ T15.heap _
    rw [e15]
    exact ⟨rfl, N16, ((Keep.trans (Keep.refl h0 [a1]) K2 (allS (Or.inl (List.mem_of_getElem? (i := 0) rfl)) all0)).wr W15 (Or.inl (List.mem_of_getElem? (i := 0) rfl))), f18, f17⟩
def Q2_13 (Z : State) (a1 a4 a6 a7 a8 a9 a10 a11 a12 a13 : Addr) (kc14 : ClassId) (a39 : Addr) (h0 : Heap) (n0 : Nat) (v : Option Value) (h : Heap) (L : List Loc) : Prop := ∃ b23 : Addr, ∃ b34 : Addr, ∃ k23 : ClassId, v = none ∧ Fr n0 L ∧ Keep h0 h [a1] ∧ h0.size ≤ b23 ∧ h0.size ≤ b34 ∧ b23 ≠ b34 ∧ Fld Z h a1 zs22 "counts" "[I" (.ref b23) ∧ Fld Z h a1 zs22 zs23 zs24 (.ref b34) ∧ Exa Z h b23 "[I" ∧ Arv Z h b23 k23 .int (8 : Int32) [] (.int (0 : Int32)) ∧ Exa Z h b34 zs17 ∧ Fld Z h b34 zs15 zs16 "I" (.int 0) ∧ Fld Z h b34 zs17 zs18 zs19 (.ref a39)
set_option maxRecDepth 65536 in
set_option maxHeartbeats 40000000 in
theorem rm2_13 (l : Launch) (Z : State) (a0 : Array Value) (hw : ∀ d ∈ tables_1, d.before a0 Z = true) (ws : List Jvm.Cond) (a1 a4 a6 a7 a8 a9 a10 a11 a12 a13 : Addr) (kc14 : ClassId) (a39 : Addr) (h0 : Heap) (n0 : Nat) (Z0 : n0 ≤ h0.size) (F5 : Sta Z h0 zs0 "$VALUES" zs12 (.ref a4)) (F15 : Arv Z h0 a4 kc14 (.object zs0) (8 : Int32) [(.ref a6), (.ref a7), (.ref a8), (.ref a9), (.ref a10), (.ref a11), (.ref a12), (.ref a13)] .null) (F16 : Exa Z h0 a4 zs12) (F25 : Fld Z h0 a1 zs22 "counts" "[I" .null) (F26 : Fld Z h0 a1 zs22 zs23 zs24 .null) (F28 : Exa Z h0 a1 zs22) (g31 : n0 ≤ a1) (F40 : Sta Z h0 zs17 zs21 zs19 (.ref a39)) :
    MetFree l zm5 (head1 (Jvm.Cond.code zm5 prog_30_method_1_code 1 none :: ws) ({ frames := 4, cells := 3, slots := 19, locals := 50 } : Room)) (fun a U => a = #[(.ref a1)] ∧ Z.Warmed39 U.vm ∧ U.heap = h0) (fun _ _ _ _ _ => True) (fun _ U o U' => ∃ v L, o = .returned v ∧ Q2_13 Z a1 a4 a6 a7 a8 a9 a10 a11 a12 a13 kc14 a39 h0 n0 v U'.heap L ∧ FrameEnd U o U' L ({ frames := 4, cells := 3, slots := 19, locals := 50 } : Room).cells ({ frames := 4, cells := 3, slots := 19, locals := 50 } : Room).slots) := by
  refine MetFree.of_bodySF (plainFor_of_name pn_5) hisR ?_
  intro p e s m args below meth c s₁ Bd hml0 hP hK
  obtain ⟨rfl, hZ, hh⟩ := hP
  have hx := Bd.exec
  have hby := Bd.bytes
  have hml : c.maxLocals = 1 := hml0
  have hown : s.vm.findClass zs22 = some m.cls := findClass_of_methodNamed Bd.named
  have hnm := (name_of_methodNamed Bd.named Bd.method).1
  have X0 : Stand p l e ({ frames := 4, cells := 3, slots := 19, locals := 50 } : Room) s m #[(.ref a1)] below meth c s₁ [] 0 0 := Stand.of_body Bd
  have e0 : s₁.heap = h0 := by rw [← hh, Bd.state]; rfl
  have N0 := Fr.nil n0
  refine own_pre (g' := mkF m 0 (lc10 a1) []) (ef_2 m a1) ?_
  obtain ⟨T2, X2, e2, st2⟩ := initO X0 hx hZ hown (ww hw 17 rfl) (ww hw 18 rfl) (ww hw 19 rfl) e0 (g := (mkF m 1 (lc10 a1) [(.ref a1)])) rfl (by rw [hml]; rfl) rfl (hb hby d2_1) (by decide) (W := 0) (by show 2 * 0 + _ ≤ _; exact Nat.le_of_eq rfl) (by decide)
  obtain ⟨_, T3, L3, X3, hQ3, st3⟩ := ocallS X2 hx hZ zm1 hown (ww hw 20 rfl) (ww hw 21 rfl) (by decide) (ww hw 22 rfl) (ww hw 5 rfl) e2 (rm4_9 l Z a0 hw [] a4 a6 a7 a8 a9 a10 a11 a12 a13 kc14 h0 n0 Z0 F5 F15 F16) (st := [(.ref a1)]) rfl 1 rfl (by decide) (pc := 5) (Ls := (lc10 a1)) hml rfl (lenOf pd_1 rfl) d2_5 hby
  obtain ⟨b17, rfl, N3q, K3, sz18, f19, f20⟩ := hQ3
  have N21 := Fr.app N0 N3q
  refine own_go (U' := T3.setTop (mkF m 8 (lc10 a1) [(.ref b17), (.ref a1)])) (fun t k => oaloadN X0 hx hby d2_0 rfl rfl (st2 _ (oaloadN X2 hx hby d2_4 rfl rfl (st3 _ k)))) ?_
  obtain ⟨cl22, Ar22, q22, S22, N22, H22, G22⟩ := id f20
  refine own_go (fun t k => X3.arraylength hx (own_at rfl Ar22.1) (State.isArrayOf_alike hZ.alike Ar22.2.1) (g := (mkF m 8 (lc10 a1) [(.ref b17), (.ref a1)])) rfl rfl (hb hby d2_8) _ k) ?_
  rw [len_of S22 N22]
  obtain ⟨T23, h23, k23, X23, e23, E23, A23, B23, st23⟩ := newPE X3 hx hZ (ww hw 40 rfl) rfl (g := (mkF m 9 (lc10 a1) [(.int 8), (.ref a1)])) rfl (hb hby d2_9) rfl (by decide) (cap := 8) (by decide) (by decide) (by decide) (by decide) (ad := "[I") (by decide)
  obtain ⟨b23, g23⟩ : ∃ z, z = T3.heap.size := ⟨_, rfl⟩
  rw [← g23] at A23 B23 st23
  have f24 : Arv Z h23 b23 k23 .int (8 : Int32) [] (.int (0 : Int32)) := Arv.new A23 (by decide)
  have f27 : Fld Z h23 a1 zs22 "counts" "[I" .null := (Fld.ext E23 (F25.keep K3 nin0))
  have f29 : Exa Z h23 a1 zs22 := (Exa.ext E23 (F28.keep K3))
  obtain ⟨T30, h30, X30, e30, W30, st30⟩ := putF X23 hx hZ hown (host := "") (Or.inl (ww hw 41 rfl)) Via.refl e23 f27 f29 (Or.inr ⟨(ww hw 42 rfl), rfl, hnm⟩) (ww hw 12 rfl) (ty := (.array .int)) (by decide) rfl rfl (g := (mkF m 11 (lc10 a1) [(.ref b23), (.ref a1)])) rfl rfl (hb hby d2_11)
  have N32 := Fr.snoc X30 N21 g31
  have f33 : Fld Z h30 a1 zs22 "counts" "[I" (.ref b23) := Fld.same W30 f27
  obtain ⟨T34, h34, X34, e34, E34, A34, D34, -, st34⟩ := newO X30 hx hZ hown (ww hw 43 rfl) (ww hw 44 rfl) (ww hw 45 rfl) e30 (g := (mkF m 15 (lc10 a1) [(.ref a1)])) rfl (hb hby d2_15) (by decide) (by decide)
  obtain ⟨b34, g34⟩ : ∃ z, z = h30.size := ⟨_, rfl⟩
  rw [← g34] at A34 D34 st34
  have f35 : Fld Z h34 b34 zs15 zs16 "I" (.int 0) := D34 (Or.inl (ww hw 63 rfl)) (ty := .int) (by decide)
  have f36 : Fld Z h34 b34 zs17 zs18 zs19 .null := D34 (Or.inl (ww hw 66 rfl)) (ty := (.array (.object zs20))) (by decide)
  have Z_1 : n0 ≤ T3.heap.size := Nat.le_trans Z0 K3.1
  have Z_2 : n0 ≤ h23.size := Nat.le_trans Z_1 E23.1
  have Z_3 : n0 ≤ h30.size := Nat.le_trans Z_2 (Keep.of_wr W30).1
  have g38 : n0 ≤ b34 := Nat.le_trans Z_3 (Nat.le_of_eq g34.symm)
  have f41 : Sta Z h34 zs17 zs21 zs19 (.ref a39) := (Sta.ext E34 (Sta.wr W30 (Sta.ext E23 (own_staK F40 K3 all0))))
  have Z_4 : n0 ≤ h34.size := Nat.le_trans Z_3 E34.1
  obtain ⟨_, T37, L37, X37, hQ37, st37⟩ := ocallI X34 hx hZ zm4 rfl hown (ww hw 46 rfl) (ww hw 47 rfl) (by decide) (ww hw 48 rfl) (ww hw 45 rfl) e34 (rm5_12 l Z a0 hw [] b34 a39 h34 n0 Z_4 f35 f36 A34 g38 f41) (st := [(.ref b34), (.ref b34), (.ref a1)]) rfl 2 rfl (by decide) (pc := 19) (Ls := (lc10 a1)) hml rfl (lenOf pd_2 rfl) d2_19 hby
  obtain ⟨rfl, N37q, K37, f42, f43⟩ := hQ37
  have N44 := Fr.app N32 N37q
  have ne45 : a1 ≠ b34 := Nat.ne_of_lt (Nat.lt_of_lt_of_le (f33.lt) (Nat.le_of_eq g34.symm))
  have f46 : Fld Z T37.heap a1 zs22 zs23 zs24 .null := ((Fld.ext E34 (Fld.other W30 (Fld.ext E23 (F26.keep K3 nin0)) (Or.inr (slot_ne (Or.inr (ww hw 68 rfl)) (Or.inr (ww hw 42 rfl)) (by decide) (t := (.object zs25)) (t' := (.array .int)) (by decide) (by decide))))).keep K37 (ninS ne45 nin0))
  have f47 : Exa Z T37.heap a1 zs22 := ((Exa.ext E34 (Exa.wr W30 f29)).keep K37)
  obtain ⟨T48, h48, X48, e48, W48, st48⟩ := putF X37 hx hZ hown (host := "") (Or.inl (ww hw 67 rfl)) Via.refl rfl f46 f47 (Or.inr ⟨(ww hw 68 rfl), rfl, hnm⟩) (ww hw 12 rfl) (ty := (.object zs25)) (by decide) rfl rfl (g := (mkF m 22 (lc10 a1) [(.ref b34), (.ref a1)])) rfl rfl (hb hby d2_22)
  have N49 := Fr.snoc X48 N44 g31
  have f50 : Fld Z h48 a1 zs22 zs23 zs24 (.ref b34) := Fld.same W48 f46
  refine own_go (U' := T48.setTop (mkF m 25 (lc10 a1) [])) (fun t k => st23 _ (st30 _ (oaloadN X30 hx hby d2_14 rfl rfl (st34 _ (odup X34 hx hby d2_18 rfl (st37 _ (st48 _ k))))))) ?_
  have f51 : Fld Z h48 a1 zs22 "counts" "[I" (.ref b23) := (Fld.other W48 ((Fld.ext E34 f33).keep K37 (ninS ne45 nin0)) (Or.inr (slot_ne (Or.inr (ww hw 42 rfl)) (Or.inr (ww hw 68 rfl)) (by decide) (t := (.array .int)) (t' := (.object zs25)) (by decide) (by decide))))
  have f52 : Exa Z h48 b23 "[I" := (Exa.wr W48 ((Exa.ext E34 (Exa.wr W30 B23)).keep K37))
  have ne53 : a1 ≠ b23 := Nat.ne_of_lt (Nat.lt_of_lt_of_le (Nat.lt_of_lt_of_le (F25.lt) K3.1) (Nat.le_of_eq g23.symm))
  have ne54 : b23 ≠ b34 := Nat.ne_of_lt (Nat.lt_of_lt_of_le (Nat.lt_of_lt_of_le (f24.lt) (Keep.of_wr W30).1) (Nat.le_of_eq g34.symm))
  have f55 : Arv Z h48 b23 k23 .int (8 : Int32) [] (.int (0 : Int32)) := ((((f24.other W30 (Ne.symm ne53)).ext E34).keep K37 (ninS ne54 nin0)).other W48 (Ne.symm ne53))
  have f56 : Exa Z h48 b34 zs17 := (Exa.wr W48 (A34.keep K37))
  have f57 : Fld Z h48 b34 zs15 zs16 "I" (.int 0) := (Fld.other W48 f42 (Or.inl (Ne.symm ne45)))
  have f58 : Fld Z h48 b34 zs17 zs18 zs19 (.ref a39) := (Fld.other W48 f43 (Or.inl (Ne.symm ne45)))
  obtain ⟨fs, hr, hrun, hended, hW, hsame⟩ := X48.leave (v := none) (fun _ => rfl)
  refine own_out ⟨_, _, ?_, hrun, hended, _, _, rfl, ?_, ⟨_, rfl⟩, hW, hsame.mono (by decide) (by decide)⟩
  · exact X48.returnOut hx Bd.returns (hb hby d2_25) hr
  · show Q2_13 Z a1 a4 a6 a7 a8 a9 a10 a11 a12 a13 kc14 a39 h0 n0 _ T48.heap _
    rw [e48]
    exact ⟨b23, b34, k23, rfl, N49, ((Keep.trans ((((Keep.trans (Keep.refl h0 [a1]) K3 all0).ext E23).wr W30 (Or.inl (List.mem_of_getElem? (i := 0) rfl))).ext E34) K37 (allS (Or.inr (Nat.le_trans K3.1 (Nat.le_trans E23.1 (Nat.le_trans (Keep.of_wr W30).1 (Nat.le_of_eq g34.symm))))) all0)).wr W48 (Or.inl (List.mem_of_getElem? (i := 0) rfl))), (Nat.le_trans K3.1 (Nat.le_of_eq g23.symm)), (Nat.le_trans K3.1 (Nat.le_trans E23.1 (Nat.le_trans (Keep.of_wr W30).1 (Nat.le_of_eq g34.symm)))), ne54, f51, f50, f52, f55, f56, f57, f58⟩
def Q9_14 (Z : State) (a1 : Addr) (p2 : Int32) (h0 : Heap) (n0 : Nat) (v : Option Value) (h : Heap) (L : List Loc) : Prop := v = some (.int p2) ∧ Fr n0 L ∧ h = h0
set_option maxRecDepth 65536 in
set_option maxHeartbeats 40000000 in
theorem rm9_14 (l : Launch) (Z : State) (a0 : Array Value) (hw : ∀ d ∈ tables_1, d.before a0 Z = true) (ws : List Jvm.Cond) (a1 : Addr) (p2 : Int32) (h0 : Heap) (n0 : Nat) (Z0 : n0 ≤ h0.size) (F3 : Fld Z h0 a1 zs26 "ordinal" "I" (.int p2)) :
    MetFree l zm6 (head1 (Jvm.Cond.code zm6 jdk_37_method_2_code 1 (some .int) :: ws) ({ frames := 0, cells := 0, slots := 0, locals := 0 } : Room)) (fun a U => a = #[(.ref a1)] ∧ Z.Warmed39 U.vm ∧ U.heap = h0) (fun _ _ _ _ _ => True) (fun _ U o U' => ∃ v L, o = .returned v ∧ Q9_14 Z a1 p2 h0 n0 v U'.heap L ∧ FrameEnd U o U' L ({ frames := 0, cells := 0, slots := 0, locals := 0 } : Room).cells ({ frames := 0, cells := 0, slots := 0, locals := 0 } : Room).slots) := by
  refine MetFree.of_bodySF (plainFor_of_name pn_6) hisR ?_
  intro p e s m args below meth c s₁ Bd hml0 hP hK
  obtain ⟨rfl, hZ, hh⟩ := hP
  have hx := Bd.exec
  have hby := Bd.bytes
  have hml : c.maxLocals = 1 := hml0
  have hown : s.vm.findClass zs26 = some m.cls := findClass_of_methodNamed Bd.named
  have hnm := (name_of_methodNamed Bd.named Bd.method).1
  have X0 : Stand p l e ({ frames := 0, cells := 0, slots := 0, locals := 0 } : Room) s m #[(.ref a1)] below meth c s₁ [] 0 0 := Stand.of_body Bd
  have e0 : s₁.heap = h0 := by rw [← hh, Bd.state]; rfl
  have N0 := Fr.nil n0
  refine own_pre (g' := mkF m 0 (lc10 a1) []) (ef_2 m a1) ?_
  obtain ⟨T4, X4, e4, st4⟩ := getF X0 hx hZ hown (host := "") (Or.inl (ww hw 81 rfl)) Via.refl e0 F3 (g := (mkF m 1 (lc10 a1) [(.ref a1)])) rfl rfl (hb hby d9_1)
  refine own_go (U' := T4.setTop (mkF m 4 (lc10 a1) [(.int p2)])) (fun t k => oaloadN X0 hx hby d9_0 rfl rfl (st4 _ k)) ?_
  obtain ⟨fs, hr, hrun, hended, hW, hsame⟩ := X4.leave (v := some (.int p2)) (fun h => by rw [Bd.returns] at h; cases h)
  refine own_out ⟨_, _, ?_, hrun, hended, _, _, rfl, ?_, ⟨_, rfl⟩, hW, hsame.mono (by decide) (by decide)⟩
  · exact retI X4 hx Bd.returns (hb hby d9_4) hr
  · show Q9_14 Z a1 p2 h0 n0 _ T4.heap _
    rw [e4]
    exact ⟨rfl, N0, rfl⟩
def Q8_15 (Z : State) (a1 a2 a3 : Addr) (p8 : Int32) (kc11 : ClassId) (h0 : Heap) (n0 : Nat) (v : Option Value) (h : Heap) (L : List Loc) : Prop := v = none ∧ Fr n0 L ∧ Keep h0 h [a3] ∧ Arh Z h a3 kc11 .int (8 : Int32) [(p8, (.int 0))] [] (.int (0 : Int32))
set_option maxRecDepth 65536 in
set_option maxHeartbeats 40000000 in
theorem rm8_15 (l : Launch) (Z : State) (a0 : Array Value) (hw : ∀ d ∈ tables_1, d.before a0 Z = true) (ws : List Jvm.Cond) (a1 a2 a3 : Addr) (p8 : Int32) (kc11 : ClassId) (h0 : Heap) (n0 : Nat) (Z0 : n0 ≤ h0.size) (F4 : Fld Z h0 a1 zs22 "counts" "[I" (.ref a3)) (F7 : Exa Z h0 a2 zs0) (F9 : Fld Z h0 a2 zs26 "ordinal" "I" (.int p8)) (F12 : Arv Z h0 a3 kc11 .int (8 : Int32) [] (.int (0 : Int32))) (hc13 : ¬ (p8 < (0 : Int32))) (hc14 : p8 < (8 : Int32)) (g19 : n0 ≤ a3) :
    MetFree l zm7 (head1 (Jvm.Cond.code zm7 prog_30_method_2_code 3 none :: ws) ({ frames := 1, cells := 0, slots := 0, locals := 13 } : Room)) (fun a U => a = #[(.ref a1), (.ref a2), (.int 0)] ∧ Z.Warmed39 U.vm ∧ U.heap = h0) (fun _ _ _ _ _ => True) (fun _ U o U' => ∃ v L, o = .returned v ∧ Q8_15 Z a1 a2 a3 p8 kc11 h0 n0 v U'.heap L ∧ FrameEnd U o U' L ({ frames := 1, cells := 0, slots := 0, locals := 13 } : Room).cells ({ frames := 1, cells := 0, slots := 0, locals := 13 } : Room).slots) := by
  refine MetFree.of_bodySF (plainFor_of_name pn_5) hisR ?_
  intro p e s m args below meth c s₁ Bd hml0 hP hK
  obtain ⟨rfl, hZ, hh⟩ := hP
  have hx := Bd.exec
  have hby := Bd.bytes
  have hml : c.maxLocals = 3 := hml0
  have hown : s.vm.findClass zs22 = some m.cls := findClass_of_methodNamed Bd.named
  have hnm := (name_of_methodNamed Bd.named Bd.method).1
  have X0 : Stand p l e ({ frames := 1, cells := 0, slots := 0, locals := 13 } : Room) s m #[(.ref a1), (.ref a2), (.int 0)] below meth c s₁ [] 0 0 := Stand.of_body Bd
  have e0 : s₁.heap = h0 := by rw [← hh, Bd.state]; rfl
  have N0 := Fr.nil n0
  refine own_pre (g' := mkF m 0 (lc13 a1 a2 0) []) (ef_3 m a1 a2 (0 : Int32)) ?_
  obtain ⟨T5, X5, e5, st5⟩ := getF X0 hx hZ hown (host := "") (Or.inl (ww hw 41 rfl)) Via.refl e0 F4 (g := (mkF m 1 (lc13 a1 a2 0) [(.ref a1)])) rfl rfl (hb hby d8_1)
  obtain ⟨_, T6, L6, X6, hQ6, st6⟩ := ocallU X5 hx hZ zm8 zm6 hown (ww hw 74 rfl) (ww hw 75 rfl) (ww hw 76 rfl) (by decide) (ww hw 78 rfl) (ww hw 77 rfl) (ww hw 80 rfl) (ww hw 79 rfl) e5 F7 (rm9_14 l Z a0 hw [] a2 p8 h0 n0 Z0 F9) (st := [(.ref a2), (.ref a3)]) rfl 1 rfl (by decide) (pc := 5) (Ls := (lc13 a1 a2 0)) hml rfl (lenOf pd_3 rfl) d8_5 hby
  obtain ⟨rfl, N6q, e6⟩ := hQ6
  have N10 := Fr.app N0 N6q
  obtain ⟨cl15, Ar15, q15, S15, N15, H15, G15⟩ := id (Arv.arh F12)
  have hin16 : ¬ (p8 < 0 ∨ cl15.slots.size ≤ (p8).toNatClampNeg) := inb_of S15 ⟨hc13, hc14⟩
  have hat16 : cl15.slots[(p8).toNatClampNeg]? = some (.int 0) := atH H15 hin16 rfl
  refine own_go (U' := T6.setTop (mkF m 11 (lc13 a1 a2 0) [(.int 0), (.int 0), (.int p8), (.ref a3)])) (fun t k => oaloadN X0 hx hby d8_0 rfl rfl (st5 _ (oaloadN X5 hx hby d8_4 rfl rfl (st6 _ (odup2 X6 hx hby d8_8 rfl rfl (X6.iaload hx (j := p8) (v := (.int 0)) (own_at e6 Ar15.1) (State.isArrayOf_alike hZ.alike Ar15.2.1) Ar15.2.2 hin16 hat16 (g := (mkF m 9 (lc13 a1 a2 0) [(.int p8), (.ref a3), (.int p8), (.ref a3)])) rfl rfl (hb hby d8_9) _ (oiloadN X6 hx hby d8_10 rfl k))))))) ?_
  obtain ⟨cl17, Ar17, q17, S17, N17, H17, G17⟩ := id (Arv.arh F12)
  have hin18 : ¬ (p8 < 0 ∨ cl17.slots.size ≤ (p8).toNatClampNeg) := inb_of S17 ⟨hc13, hc14⟩
  obtain ⟨T18, h18, X18, e18, W18, st18⟩ := stI X6 hx hZ e6 Ar17 (j := p8) hin18 (g := (mkF m 20 (lc13 a1 a2 0) [(.int 0), (.int p8), (.ref a3)])) rfl rfl (hb hby d8_20)
  have N20 := Fr.snoc X18 N10 g19
  have f21 : Arh Z h18 a3 kc11 .int (8 : Int32) [(p8, (.int 0))] [] (.int (0 : Int32)) := Arh.push Ar17 q17 S17 N17 H17 G17 (by rfl) W18 hin18
  refine own_go (U' := T18.setTop (mkF m 21 (lc13 a1 a2 0) [])) (fun t k => oifY (pc := 11) X6 hx hby d8_11 18 (by decide) (by decide) (oiconst X6 hx hby d8_18 (oiadd X6 hx hby d8_19 (st18 _ k)))) ?_
  obtain ⟨fs, hr, hrun, hended, hW, hsame⟩ := X18.leave (v := none) (fun _ => rfl)
  refine own_out ⟨_, _, ?_, hrun, hended, _, _, rfl, ?_, ⟨_, rfl⟩, hW, hsame.mono (by decide) (by decide)⟩
  · exact X18.returnOut hx Bd.returns (hb hby d8_21) hr
  · show Q8_15 Z a1 a2 a3 p8 kc11 h0 n0 _ T18.heap _
    rw [e18]
    exact ⟨rfl, N20, ((Keep.refl h0 [a3]).wr W18 (Or.inl (List.mem_of_getElem? (i := 0) rfl))), f21⟩
def Q8_16 (Z : State) (a1 a2 a3 : Addr) (p8 : Int32) (kc11 : ClassId) (p12 : Int32) (h0 : Heap) (n0 : Nat) (v : Option Value) (h : Heap) (L : List Loc) : Prop := v = none ∧ Fr n0 L ∧ Keep h0 h [a3] ∧ Arh Z h a3 kc11 .int (8 : Int32) [(p8, (.int 0)), (p12, (.int 0))] [] (.int (0 : Int32))
set_option maxRecDepth 65536 in
set_option maxHeartbeats 40000000 in
theorem rm8_16 (l : Launch) (Z : State) (a0 : Array Value) (hw : ∀ d ∈ tables_1, d.before a0 Z = true) (ws : List Jvm.Cond) (a1 a2 a3 : Addr) (p8 : Int32) (kc11 : ClassId) (p12 : Int32) (h0 : Heap) (n0 : Nat) (Z0 : n0 ≤ h0.size) (F4 : Fld Z h0 a1 zs22 "counts" "[I" (.ref a3)) (F7 : Exa Z h0 a2 zs0) (F9 : Fld Z h0 a2 zs26 "ordinal" "I" (.int p8)) (F13 : Arh Z h0 a3 kc11 .int (8 : Int32) [(p12, (.int 0))] [] (.int (0 : Int32))) (hc14 : ¬ (p8 < (0 : Int32))) (hc15 : p8 < (8 : Int32)) (hc16 : p8 = p12) (g21 : n0 ≤ a3) :
    MetFree l zm7 (head1 (Jvm.Cond.code zm7 prog_30_method_2_code 3 none :: ws) ({ frames := 1, cells := 0, slots := 0, locals := 13 } : Room)) (fun a U => a = #[(.ref a1), (.ref a2), (.int 0)] ∧ Z.Warmed39 U.vm ∧ U.heap = h0) (fun _ _ _ _ _ => True) (fun _ U o U' => ∃ v L, o = .returned v ∧ Q8_16 Z a1 a2 a3 p8 kc11 p12 h0 n0 v U'.heap L ∧ FrameEnd U o U' L ({ frames := 1, cells := 0, slots := 0, locals := 13 } : Room).cells ({ frames := 1, cells := 0, slots := 0, locals := 13 } : Room).slots) := by
  refine MetFree.of_bodySF (plainFor_of_name pn_5) hisR ?_
  intro p e s m args below meth c s₁ Bd hml0 hP hK
  obtain ⟨rfl, hZ, hh⟩ := hP
  have hx := Bd.exec
  have hby := Bd.bytes
  have hml : c.maxLocals = 3 := hml0
  have hown : s.vm.findClass zs22 = some m.cls := findClass_of_methodNamed Bd.named
  have hnm := (name_of_methodNamed Bd.named Bd.method).1
  have X0 : Stand p l e ({ frames := 1, cells := 0, slots := 0, locals := 13 } : Room) s m #[(.ref a1), (.ref a2), (.int 0)] below meth c s₁ [] 0 0 := Stand.of_body Bd
  have e0 : s₁.heap = h0 := by rw [← hh, Bd.state]; rfl
  have N0 := Fr.nil n0
  refine own_pre (g' := mkF m 0 (lc13 a1 a2 0) []) (ef_3 m a1 a2 (0 : Int32)) ?_
  obtain ⟨T5, X5, e5, st5⟩ := getF X0 hx hZ hown (host := "") (Or.inl (ww hw 41 rfl)) Via.refl e0 F4 (g := (mkF m 1 (lc13 a1 a2 0) [(.ref a1)])) rfl rfl (hb hby d8_1)
  obtain ⟨_, T6, L6, X6, hQ6, st6⟩ := ocallU X5 hx hZ zm8 zm6 hown (ww hw 74 rfl) (ww hw 75 rfl) (ww hw 76 rfl) (by decide) (ww hw 78 rfl) (ww hw 77 rfl) (ww hw 80 rfl) (ww hw 79 rfl) e5 F7 (rm9_14 l Z a0 hw [] a2 p8 h0 n0 Z0 F9) (st := [(.ref a2), (.ref a3)]) rfl 1 rfl (by decide) (pc := 5) (Ls := (lc13 a1 a2 0)) hml rfl (lenOf pd_3 rfl) d8_5 hby
  obtain ⟨rfl, N6q, e6⟩ := hQ6
  have N10 := Fr.app N0 N6q
  obtain ⟨cl17, Ar17, q17, S17, N17, H17, G17⟩ := id F13
  have hin18 : ¬ (p8 < 0 ∨ cl17.slots.size ≤ (p8).toNatClampNeg) := inb_of S17 ⟨hc14, hc15⟩
  have hat18 : cl17.slots[(p8).toNatClampNeg]? = some (.int 0) := atH H17 hin18 (getH_hit hc14 hc16)
  refine own_go (U' := T6.setTop (mkF m 11 (lc13 a1 a2 0) [(.int 0), (.int 0), (.int p8), (.ref a3)])) (fun t k => oaloadN X0 hx hby d8_0 rfl rfl (st5 _ (oaloadN X5 hx hby d8_4 rfl rfl (st6 _ (odup2 X6 hx hby d8_8 rfl rfl (X6.iaload hx (j := p8) (v := (.int 0)) (own_at e6 Ar17.1) (State.isArrayOf_alike hZ.alike Ar17.2.1) Ar17.2.2 hin18 hat18 (g := (mkF m 9 (lc13 a1 a2 0) [(.int p8), (.ref a3), (.int p8), (.ref a3)])) rfl rfl (hb hby d8_9) _ (oiloadN X6 hx hby d8_10 rfl k))))))) ?_
  obtain ⟨cl19, Ar19, q19, S19, N19, H19, G19⟩ := id F13
  have hin20 : ¬ (p8 < 0 ∨ cl19.slots.size ≤ (p8).toNatClampNeg) := inb_of S19 ⟨hc14, hc15⟩
  obtain ⟨T20, h20, X20, e20, W20, st20⟩ := stI X6 hx hZ e6 Ar19 (j := p8) hin20 (g := (mkF m 20 (lc13 a1 a2 0) [(.int 0), (.int p8), (.ref a3)])) rfl rfl (hb hby d8_20)
  have N22 := Fr.snoc X20 N10 g21
  have f23 : Arh Z h20 a3 kc11 .int (8 : Int32) [(p8, (.int 0)), (p12, (.int 0))] [] (.int (0 : Int32)) := Arh.push Ar19 q19 S19 N19 H19 G19 (by rfl) W20 hin20
  refine own_go (U' := T20.setTop (mkF m 21 (lc13 a1 a2 0) [])) (fun t k => oifY (pc := 11) X6 hx hby d8_11 18 (by decide) (by decide) (oiconst X6 hx hby d8_18 (oiadd X6 hx hby d8_19 (st20 _ k)))) ?_
  obtain ⟨fs, hr, hrun, hended, hW, hsame⟩ := X20.leave (v := none) (fun _ => rfl)
  refine own_out ⟨_, _, ?_, hrun, hended, _, _, rfl, ?_, ⟨_, rfl⟩, hW, hsame.mono (by decide) (by decide)⟩
  · exact X20.returnOut hx Bd.returns (hb hby d8_21) hr
  · show Q8_16 Z a1 a2 a3 p8 kc11 p12 h0 n0 _ T20.heap _
    rw [e20]
    exact ⟨rfl, N22, ((Keep.refl h0 [a3]).wr W20 (Or.inl (List.mem_of_getElem? (i := 0) rfl))), f23⟩
def Q8_17 (Z : State) (a1 a2 a3 : Addr) (p8 : Int32) (kc11 : ClassId) (p12 : Int32) (h0 : Heap) (n0 : Nat) (v : Option Value) (h : Heap) (L : List Loc) : Prop := v = none ∧ Fr n0 L ∧ Keep h0 h [a3] ∧ Arh Z h a3 kc11 .int (8 : Int32) [(p8, (.int 0)), (p8, (.int 0)), (p12, (.int 0))] [] (.int (0 : Int32))
set_option maxRecDepth 65536 in
set_option maxHeartbeats 40000000 in
theorem rm8_17 (l : Launch) (Z : State) (a0 : Array Value) (hw : ∀ d ∈ tables_1, d.before a0 Z = true) (ws : List Jvm.Cond) (a1 a2 a3 : Addr) (p8 : Int32) (kc11 : ClassId) (p12 : Int32) (h0 : Heap) (n0 : Nat) (Z0 : n0 ≤ h0.size) (F4 : Fld Z h0 a1 zs22 "counts" "[I" (.ref a3)) (F7 : Exa Z h0 a2 zs0) (F9 : Fld Z h0 a2 zs26 "ordinal" "I" (.int p8)) (F13 : Arh Z h0 a3 kc11 .int (8 : Int32) [(p8, (.int 0)), (p12, (.int 0))] [] (.int (0 : Int32))) (hc14 : ¬ (p8 < (0 : Int32))) (hc15 : p8 < (8 : Int32)) (g20 : n0 ≤ a3) :
    MetFree l zm7 (head1 (Jvm.Cond.code zm7 prog_30_method_2_code 3 none :: ws) ({ frames := 1, cells := 0, slots := 0, locals := 13 } : Room)) (fun a U => a = #[(.ref a1), (.ref a2), (.int 0)] ∧ Z.Warmed39 U.vm ∧ U.heap = h0) (fun _ _ _ _ _ => True) (fun _ U o U' => ∃ v L, o = .returned v ∧ Q8_17 Z a1 a2 a3 p8 kc11 p12 h0 n0 v U'.heap L ∧ FrameEnd U o U' L ({ frames := 1, cells := 0, slots := 0, locals := 13 } : Room).cells ({ frames := 1, cells := 0, slots := 0, locals := 13 } : Room).slots) := by
  refine MetFree.of_bodySF (plainFor_of_name pn_5) hisR ?_
  intro p e s m args below meth c s₁ Bd hml0 hP hK
  obtain ⟨rfl, hZ, hh⟩ := hP
  have hx := Bd.exec
  have hby := Bd.bytes
  have hml : c.maxLocals = 3 := hml0
  have hown : s.vm.findClass zs22 = some m.cls := findClass_of_methodNamed Bd.named
  have hnm := (name_of_methodNamed Bd.named Bd.method).1
  have X0 : Stand p l e ({ frames := 1, cells := 0, slots := 0, locals := 13 } : Room) s m #[(.ref a1), (.ref a2), (.int 0)] below meth c s₁ [] 0 0 := Stand.of_body Bd
  have e0 : s₁.heap = h0 := by rw [← hh, Bd.state]; rfl
  have N0 := Fr.nil n0
  refine own_pre (g' := mkF m 0 (lc13 a1 a2 0) []) (ef_3 m a1 a2 (0 : Int32)) ?_
  obtain ⟨T5, X5, e5, st5⟩ := getF X0 hx hZ hown (host := "") (Or.inl (ww hw 41 rfl)) Via.refl e0 F4 (g := (mkF m 1 (lc13 a1 a2 0) [(.ref a1)])) rfl rfl (hb hby d8_1)
  obtain ⟨_, T6, L6, X6, hQ6, st6⟩ := ocallU X5 hx hZ zm8 zm6 hown (ww hw 74 rfl) (ww hw 75 rfl) (ww hw 76 rfl) (by decide) (ww hw 78 rfl) (ww hw 77 rfl) (ww hw 80 rfl) (ww hw 79 rfl) e5 F7 (rm9_14 l Z a0 hw [] a2 p8 h0 n0 Z0 F9) (st := [(.ref a2), (.ref a3)]) rfl 1 rfl (by decide) (pc := 5) (Ls := (lc13 a1 a2 0)) hml rfl (lenOf pd_3 rfl) d8_5 hby
  obtain ⟨rfl, N6q, e6⟩ := hQ6
  have N10 := Fr.app N0 N6q
  obtain ⟨cl16, Ar16, q16, S16, N16, H16, G16⟩ := id F13
  have hin17 : ¬ (p8 < 0 ∨ cl16.slots.size ≤ (p8).toNatClampNeg) := inb_of S16 ⟨hc14, hc15⟩
  have hat17 : cl16.slots[(p8).toNatClampNeg]? = some (.int 0) := atH H16 hin17 (getH_hit hc14 (rfl : p8 = p8))
  refine own_go (U' := T6.setTop (mkF m 11 (lc13 a1 a2 0) [(.int 0), (.int 0), (.int p8), (.ref a3)])) (fun t k => oaloadN X0 hx hby d8_0 rfl rfl (st5 _ (oaloadN X5 hx hby d8_4 rfl rfl (st6 _ (odup2 X6 hx hby d8_8 rfl rfl (X6.iaload hx (j := p8) (v := (.int 0)) (own_at e6 Ar16.1) (State.isArrayOf_alike hZ.alike Ar16.2.1) Ar16.2.2 hin17 hat17 (g := (mkF m 9 (lc13 a1 a2 0) [(.int p8), (.ref a3), (.int p8), (.ref a3)])) rfl rfl (hb hby d8_9) _ (oiloadN X6 hx hby d8_10 rfl k))))))) ?_
  obtain ⟨cl18, Ar18, q18, S18, N18, H18, G18⟩ := id F13
  have hin19 : ¬ (p8 < 0 ∨ cl18.slots.size ≤ (p8).toNatClampNeg) := inb_of S18 ⟨hc14, hc15⟩
  obtain ⟨T19, h19, X19, e19, W19, st19⟩ := stI X6 hx hZ e6 Ar18 (j := p8) hin19 (g := (mkF m 20 (lc13 a1 a2 0) [(.int 0), (.int p8), (.ref a3)])) rfl rfl (hb hby d8_20)
  have N21 := Fr.snoc X19 N10 g20
  have f22 : Arh Z h19 a3 kc11 .int (8 : Int32) [(p8, (.int 0)), (p8, (.int 0)), (p12, (.int 0))] [] (.int (0 : Int32)) := Arh.push Ar18 q18 S18 N18 H18 G18 (by rfl) W19 hin19
  refine own_go (U' := T19.setTop (mkF m 21 (lc13 a1 a2 0) [])) (fun t k => oifY (pc := 11) X6 hx hby d8_11 18 (by decide) (by decide) (oiconst X6 hx hby d8_18 (oiadd X6 hx hby d8_19 (st19 _ k)))) ?_
  obtain ⟨fs, hr, hrun, hended, hW, hsame⟩ := X19.leave (v := none) (fun _ => rfl)
  refine own_out ⟨_, _, ?_, hrun, hended, _, _, rfl, ?_, ⟨_, rfl⟩, hW, hsame.mono (by decide) (by decide)⟩
  · exact X19.returnOut hx Bd.returns (hb hby d8_21) hr
  · show Q8_17 Z a1 a2 a3 p8 kc11 p12 h0 n0 _ T19.heap _
    rw [e19]
    exact ⟨rfl, N21, ((Keep.refl h0 [a3]).wr W19 (Or.inl (List.mem_of_getElem? (i := 0) rfl))), f22⟩
def Q10_18 (Z : State)  (h0 : Heap) (n0 : Nat) (v : Option Value) (h : Heap) (L : List Loc) : Prop := v = some (.int 0) ∧ Fr n0 L ∧ h = h0
set_option maxRecDepth 65536 in
set_option maxHeartbeats 40000000 in
theorem rm10_18 (l : Launch) (Z : State) (a0 : Array Value) (hw : ∀ d ∈ tables_1, d.before a0 Z = true) (ws : List Jvm.Cond)  (h0 : Heap) (n0 : Nat) (Z0 : n0 ≤ h0.size) :
    MetFree l zm9 (head1 (Jvm.Cond.code zm9 method_3_code 1 (some .int) :: ws) ({ frames := 0, cells := 0, slots := 0, locals := 0 } : Room)) (fun a U => a = #[(.int 0)] ∧ Z.Warmed39 U.vm ∧ U.heap = h0) (fun _ _ _ _ _ => True) (fun _ U o U' => ∃ v L, o = .returned v ∧ Q10_18 Z  h0 n0 v U'.heap L ∧ FrameEnd U o U' L ({ frames := 0, cells := 0, slots := 0, locals := 0 } : Room).cells ({ frames := 0, cells := 0, slots := 0, locals := 0 } : Room).slots) := by
  refine MetFree.of_bodySF (plainFor_of_name pn_0) hisR ?_
  intro p e s m args below meth c s₁ Bd hml0 hP hK
  obtain ⟨rfl, hZ, hh⟩ := hP
  have hx := Bd.exec
  have hby := Bd.bytes
  have hml : c.maxLocals = 1 := hml0
  have hown : s.vm.findClass zs10 = some m.cls := findClass_of_methodNamed Bd.named
  have hnm := (name_of_methodNamed Bd.named Bd.method).1
  have X0 : Stand p l e ({ frames := 0, cells := 0, slots := 0, locals := 0 } : Room) s m #[(.int 0)] below meth c s₁ [] 0 0 := Stand.of_body Bd
  have e0 : s₁.heap = h0 := by rw [← hh, Bd.state]; rfl
  have N0 := Fr.nil n0
  refine own_pre (g' := mkF m 0 (lc6 0) []) (ef_0 m (0 : Int32)) ?_
  refine own_go (U' := s₁.setTop (mkF m 1 (lc6 0) [(.int 0)])) (fun t k => oiloadN X0 hx hby d10_0 rfl k) ?_
  refine own_go (U' := s₁.setTop (mkF m 9 (lc6 0) [(.int 0)])) (fun t k => oifY (pc := 1) X0 hx hby d10_1 8 (by decide) (by decide) (oiconst X0 hx hby d10_8 k)) ?_
  obtain ⟨fs, hr, hrun, hended, hW, hsame⟩ := X0.leave (v := some (.int 0)) (fun h => by rw [Bd.returns] at h; cases h)
  refine own_out ⟨_, _, ?_, hrun, hended, _, _, rfl, ?_, ⟨_, rfl⟩, hW, hsame.mono (by decide) (by decide)⟩
  · exact retI X0 hx Bd.returns (hb hby d10_9) hr
  · show Q10_18 Z  h0 n0 _ s₁.heap _
    rw [e0]
    exact ⟨rfl, N0, rfl⟩
def Q11_19 (Z : State) (a1 a2 a3 : Addr) (p8 : Int32) (kc11 : ClassId) (p12 : Int32) (h0 : Heap) (n0 : Nat) (v : Option Value) (h : Heap) (L : List Loc) : Prop := v = some (.int 0) ∧ Fr n0 L ∧ h = h0
set_option maxRecDepth 65536 in
set_option maxHeartbeats 40000000 in
theorem rm11_19 (l : Launch) (Z : State) (a0 : Array Value) (hw : ∀ d ∈ tables_1, d.before a0 Z = true) (ws : List Jvm.Cond) (a1 a2 a3 : Addr) (p8 : Int32) (kc11 : ClassId) (p12 : Int32) (h0 : Heap) (n0 : Nat) (Z0 : n0 ≤ h0.size) (F4 : Fld Z h0 a1 zs22 "counts" "[I" (.ref a3)) (F7 : Exa Z h0 a2 zs0) (F9 : Fld Z h0 a2 zs26 "ordinal" "I" (.int p8)) (F13 : Arh Z h0 a3 kc11 .int (8 : Int32) [(p8, (.int 0)), (p8, (.int 0)), (p12, (.int 0))] [] (.int (0 : Int32))) (hc14 : ¬ (p8 < (0 : Int32))) (hc15 : p8 < (8 : Int32)) :
    MetFree l zm10 (head1 (Jvm.Cond.code zm10 prog_30_method_5_code 2 (some .int) :: ws) ({ frames := 1, cells := 0, slots := 0, locals := 13 } : Room)) (fun a U => a = #[(.ref a1), (.ref a2)] ∧ Z.Warmed39 U.vm ∧ U.heap = h0) (fun _ _ _ _ _ => True) (fun _ U o U' => ∃ v L, o = .returned v ∧ Q11_19 Z a1 a2 a3 p8 kc11 p12 h0 n0 v U'.heap L ∧ FrameEnd U o U' L ({ frames := 1, cells := 0, slots := 0, locals := 13 } : Room).cells ({ frames := 1, cells := 0, slots := 0, locals := 13 } : Room).slots) := by
  refine MetFree.of_bodySF (plainFor_of_name pn_5) hisR ?_
  intro p e s m args below meth c s₁ Bd hml0 hP hK
  obtain ⟨rfl, hZ, hh⟩ := hP
  have hx := Bd.exec
  have hby := Bd.bytes
  have hml : c.maxLocals = 2 := hml0
  have hown : s.vm.findClass zs22 = some m.cls := findClass_of_methodNamed Bd.named
  have hnm := (name_of_methodNamed Bd.named Bd.method).1
  have X0 : Stand p l e ({ frames := 1, cells := 0, slots := 0, locals := 13 } : Room) s m #[(.ref a1), (.ref a2)] below meth c s₁ [] 0 0 := Stand.of_body Bd
  have e0 : s₁.heap = h0 := by rw [← hh, Bd.state]; rfl
  have N0 := Fr.nil n0
  refine own_pre (g' := mkF m 0 (lc16 a1 a2) []) (ef_4 m a1 a2) ?_
  obtain ⟨T5, X5, e5, st5⟩ := getF X0 hx hZ hown (host := "") (Or.inl (ww hw 41 rfl)) Via.refl e0 F4 (g := (mkF m 1 (lc16 a1 a2) [(.ref a1)])) rfl rfl (hb hby d11_1)
  obtain ⟨_, T6, L6, X6, hQ6, st6⟩ := ocallU X5 hx hZ zm8 zm6 hown (ww hw 74 rfl) (ww hw 75 rfl) (ww hw 76 rfl) (by decide) (ww hw 78 rfl) (ww hw 77 rfl) (ww hw 80 rfl) (ww hw 79 rfl) e5 F7 (rm9_14 l Z a0 hw [] a2 p8 h0 n0 Z0 F9) (st := [(.ref a2), (.ref a3)]) rfl 1 rfl (by decide) (pc := 5) (Ls := (lc16 a1 a2)) hml rfl (lenOf pd_3 rfl) d11_5 hby
  obtain ⟨rfl, N6q, e6⟩ := hQ6
  have N10 := Fr.app N0 N6q
  obtain ⟨cl16, Ar16, q16, S16, N16, H16, G16⟩ := id F13
  have hin17 : ¬ (p8 < 0 ∨ cl16.slots.size ≤ (p8).toNatClampNeg) := inb_of S16 ⟨hc14, hc15⟩
  have hat17 : cl16.slots[(p8).toNatClampNeg]? = some (.int 0) := atH H16 hin17 (getH_hit hc14 (rfl : p8 = p8))
  refine own_go (U' := T6.setTop (mkF m 9 (lc16 a1 a2) [(.int 0)])) (fun t k => oaloadN X0 hx hby d11_0 rfl rfl (st5 _ (oaloadN X5 hx hby d11_4 rfl rfl (st6 _ (X6.iaload hx (j := p8) (v := (.int 0)) (own_at e6 Ar16.1) (State.isArrayOf_alike hZ.alike Ar16.2.1) Ar16.2.2 hin17 hat17 (g := (mkF m 8 (lc16 a1 a2) [(.int p8), (.ref a3)])) rfl rfl (hb hby d11_8) _ k))))) ?_
  obtain ⟨fs, hr, hrun, hended, hW, hsame⟩ := X6.leave (v := some (.int 0)) (fun h => by rw [Bd.returns] at h; cases h)
  refine own_out ⟨_, _, ?_, hrun, hended, _, _, rfl, ?_, ⟨_, rfl⟩, hW, hsame.mono (by decide) (by decide)⟩
  · exact retI X6 hx Bd.returns (hb hby d11_9) hr
  · show Q11_19 Z a1 a2 a3 p8 kc11 p12 h0 n0 _ T6.heap _
    rw [e6]
    exact ⟨rfl, N10, rfl⟩
def Q11_20 (Z : State) (a1 a2 a3 : Addr) (p8 : Int32) (kc11 : ClassId) (p12 p13 : Int32) (h0 : Heap) (n0 : Nat) (v : Option Value) (h : Heap) (L : List Loc) : Prop := v = some (.int 0) ∧ Fr n0 L ∧ h = h0
set_option maxRecDepth 65536 in
set_option maxHeartbeats 40000000 in
theorem rm11_20 (l : Launch) (Z : State) (a0 : Array Value) (hw : ∀ d ∈ tables_1, d.before a0 Z = true) (ws : List Jvm.Cond) (a1 a2 a3 : Addr) (p8 : Int32) (kc11 : ClassId) (p12 p13 : Int32) (h0 : Heap) (n0 : Nat) (Z0 : n0 ≤ h0.size) (F4 : Fld Z h0 a1 zs22 "counts" "[I" (.ref a3)) (F7 : Exa Z h0 a2 zs0) (F9 : Fld Z h0 a2 zs26 "ordinal" "I" (.int p8)) (F14 : Arh Z h0 a3 kc11 .int (8 : Int32) [(p12, (.int 0)), (p12, (.int 0)), (p13, (.int 0))] [] (.int (0 : Int32))) (hc15 : ¬ (p8 < (0 : Int32))) (hc16 : p8 < (8 : Int32)) (hc17 : p8 = p12) :
    MetFree l zm10 (head1 (Jvm.Cond.code zm10 prog_30_method_5_code 2 (some .int) :: ws) ({ frames := 1, cells := 0, slots := 0, locals := 13 } : Room)) (fun a U => a = #[(.ref a1), (.ref a2)] ∧ Z.Warmed39 U.vm ∧ U.heap = h0) (fun _ _ _ _ _ => True) (fun _ U o U' => ∃ v L, o = .returned v ∧ Q11_20 Z a1 a2 a3 p8 kc11 p12 p13 h0 n0 v U'.heap L ∧ FrameEnd U o U' L ({ frames := 1, cells := 0, slots := 0, locals := 13 } : Room).cells ({ frames := 1, cells := 0, slots := 0, locals := 13 } : Room).slots) := by
  refine MetFree.of_bodySF (plainFor_of_name pn_5) hisR ?_
  intro p e s m args below meth c s₁ Bd hml0 hP hK
  obtain ⟨rfl, hZ, hh⟩ := hP
  have hx := Bd.exec
  have hby := Bd.bytes
  have hml : c.maxLocals = 2 := hml0
  have hown : s.vm.findClass zs22 = some m.cls := findClass_of_methodNamed Bd.named
  have hnm := (name_of_methodNamed Bd.named Bd.method).1
  have X0 : Stand p l e ({ frames := 1, cells := 0, slots := 0, locals := 13 } : Room) s m #[(.ref a1), (.ref a2)] below meth c s₁ [] 0 0 := Stand.of_body Bd
  have e0 : s₁.heap = h0 := by rw [← hh, Bd.state]; rfl
  have N0 := Fr.nil n0
  refine own_pre (g' := mkF m 0 (lc16 a1 a2) []) (ef_4 m a1 a2) ?_
  obtain ⟨T5, X5, e5, st5⟩ := getF X0 hx hZ hown (host := "") (Or.inl (ww hw 41 rfl)) Via.refl e0 F4 (g := (mkF m 1 (lc16 a1 a2) [(.ref a1)])) rfl rfl (hb hby d11_1)
  obtain ⟨_, T6, L6, X6, hQ6, st6⟩ := ocallU X5 hx hZ zm8 zm6 hown (ww hw 74 rfl) (ww hw 75 rfl) (ww hw 76 rfl) (by decide) (ww hw 78 rfl) (ww hw 77 rfl) (ww hw 80 rfl) (ww hw 79 rfl) e5 F7 (rm9_14 l Z a0 hw [] a2 p8 h0 n0 Z0 F9) (st := [(.ref a2), (.ref a3)]) rfl 1 rfl (by decide) (pc := 5) (Ls := (lc16 a1 a2)) hml rfl (lenOf pd_3 rfl) d11_5 hby
  obtain ⟨rfl, N6q, e6⟩ := hQ6
  have N10 := Fr.app N0 N6q
  obtain ⟨cl18, Ar18, q18, S18, N18, H18, G18⟩ := id F14
  have hin19 : ¬ (p8 < 0 ∨ cl18.slots.size ≤ (p8).toNatClampNeg) := inb_of S18 ⟨hc15, hc16⟩
  have hat19 : cl18.slots[(p8).toNatClampNeg]? = some (.int 0) := atH H18 hin19 (getH_hit hc15 hc17)
  refine own_go (U' := T6.setTop (mkF m 9 (lc16 a1 a2) [(.int 0)])) (fun t k => oaloadN X0 hx hby d11_0 rfl rfl (st5 _ (oaloadN X5 hx hby d11_4 rfl rfl (st6 _ (X6.iaload hx (j := p8) (v := (.int 0)) (own_at e6 Ar18.1) (State.isArrayOf_alike hZ.alike Ar18.2.1) Ar18.2.2 hin19 hat19 (g := (mkF m 8 (lc16 a1 a2) [(.int p8), (.ref a3)])) rfl rfl (hb hby d11_8) _ k))))) ?_
  obtain ⟨fs, hr, hrun, hended, hW, hsame⟩ := X6.leave (v := some (.int 0)) (fun h => by rw [Bd.returns] at h; cases h)
  refine own_out ⟨_, _, ?_, hrun, hended, _, _, rfl, ?_, ⟨_, rfl⟩, hW, hsame.mono (by decide) (by decide)⟩
  · exact retI X6 hx Bd.returns (hb hby d11_9) hr
  · show Q11_20 Z a1 a2 a3 p8 kc11 p12 p13 h0 n0 _ T6.heap _
    rw [e6]
    exact ⟨rfl, N10, rfl⟩
def Q11_21 (Z : State) (a1 a2 a3 : Addr) (p8 : Int32) (kc11 : ClassId) (p12 p13 : Int32) (h0 : Heap) (n0 : Nat) (v : Option Value) (h : Heap) (L : List Loc) : Prop := v = some (.int 0) ∧ Fr n0 L ∧ h = h0
set_option maxRecDepth 65536 in
set_option maxHeartbeats 40000000 in
theorem rm11_21 (l : Launch) (Z : State) (a0 : Array Value) (hw : ∀ d ∈ tables_1, d.before a0 Z = true) (ws : List Jvm.Cond) (a1 a2 a3 : Addr) (p8 : Int32) (kc11 : ClassId) (p12 p13 : Int32) (h0 : Heap) (n0 : Nat) (Z0 : n0 ≤ h0.size) (F4 : Fld Z h0 a1 zs22 "counts" "[I" (.ref a3)) (F7 : Exa Z h0 a2 zs0) (F9 : Fld Z h0 a2 zs26 "ordinal" "I" (.int p8)) (F14 : Arh Z h0 a3 kc11 .int (8 : Int32) [(p12, (.int 0)), (p12, (.int 0)), (p13, (.int 0))] [] (.int (0 : Int32))) (hc15 : ¬ (p8 < (0 : Int32))) (hc16 : p8 < (8 : Int32)) (hc17 : ¬ (p8 = p12)) (hc18 : ¬ (p8 = p13)) :
    MetFree l zm10 (head1 (Jvm.Cond.code zm10 prog_30_method_5_code 2 (some .int) :: ws) ({ frames := 1, cells := 0, slots := 0, locals := 13 } : Room)) (fun a U => a = #[(.ref a1), (.ref a2)] ∧ Z.Warmed39 U.vm ∧ U.heap = h0) (fun _ _ _ _ _ => True) (fun _ U o U' => ∃ v L, o = .returned v ∧ Q11_21 Z a1 a2 a3 p8 kc11 p12 p13 h0 n0 v U'.heap L ∧ FrameEnd U o U' L ({ frames := 1, cells := 0, slots := 0, locals := 13 } : Room).cells ({ frames := 1, cells := 0, slots := 0, locals := 13 } : Room).slots) := by
  refine MetFree.of_bodySF (plainFor_of_name pn_5) hisR ?_
  intro p e s m args below meth c s₁ Bd hml0 hP hK
  obtain ⟨rfl, hZ, hh⟩ := hP
  have hx := Bd.exec
  have hby := Bd.bytes
  have hml : c.maxLocals = 2 := hml0
  have hown : s.vm.findClass zs22 = some m.cls := findClass_of_methodNamed Bd.named
  have hnm := (name_of_methodNamed Bd.named Bd.method).1
  have X0 : Stand p l e ({ frames := 1, cells := 0, slots := 0, locals := 13 } : Room) s m #[(.ref a1), (.ref a2)] below meth c s₁ [] 0 0 := Stand.of_body Bd
  have e0 : s₁.heap = h0 := by rw [← hh, Bd.state]; rfl
  have N0 := Fr.nil n0
  refine own_pre (g' := mkF m 0 (lc16 a1 a2) []) (ef_4 m a1 a2) ?_
  obtain ⟨T5, X5, e5, st5⟩ := getF X0 hx hZ hown (host := "") (Or.inl (ww hw 41 rfl)) Via.refl e0 F4 (g := (mkF m 1 (lc16 a1 a2) [(.ref a1)])) rfl rfl (hb hby d11_1)
  obtain ⟨_, T6, L6, X6, hQ6, st6⟩ := ocallU X5 hx hZ zm8 zm6 hown (ww hw 74 rfl) (ww hw 75 rfl) (ww hw 76 rfl) (by decide) (ww hw 78 rfl) (ww hw 77 rfl) (ww hw 80 rfl) (ww hw 79 rfl) e5 F7 (rm9_14 l Z a0 hw [] a2 p8 h0 n0 Z0 F9) (st := [(.ref a2), (.ref a3)]) rfl 1 rfl (by decide) (pc := 5) (Ls := (lc16 a1 a2)) hml rfl (lenOf pd_3 rfl) d11_5 hby
  obtain ⟨rfl, N6q, e6⟩ := hQ6
  have N10 := Fr.app N0 N6q
  obtain ⟨cl19, Ar19, q19, S19, N19, H19, G19⟩ := id F14
  have hin20 : ¬ (p8 < 0 ∨ cl19.slots.size ≤ (p8).toNatClampNeg) := inb_of S19 ⟨hc15, hc16⟩
  have hat20 : cl19.slots[(p8).toNatClampNeg]? = some (.int 0) := atH H19 hin20 (getH_miss hc15 hc17 (getH_miss hc15 hc17 (getH_miss hc15 hc18 rfl)))
  refine own_go (U' := T6.setTop (mkF m 9 (lc16 a1 a2) [(.int 0)])) (fun t k => oaloadN X0 hx hby d11_0 rfl rfl (st5 _ (oaloadN X5 hx hby d11_4 rfl rfl (st6 _ (X6.iaload hx (j := p8) (v := (.int 0)) (own_at e6 Ar19.1) (State.isArrayOf_alike hZ.alike Ar19.2.1) Ar19.2.2 hin20 hat20 (g := (mkF m 8 (lc16 a1 a2) [(.int p8), (.ref a3)])) rfl rfl (hb hby d11_8) _ k))))) ?_
  obtain ⟨fs, hr, hrun, hended, hW, hsame⟩ := X6.leave (v := some (.int 0)) (fun h => by rw [Bd.returns] at h; cases h)
  refine own_out ⟨_, _, ?_, hrun, hended, _, _, rfl, ?_, ⟨_, rfl⟩, hW, hsame.mono (by decide) (by decide)⟩
  · exact retI X6 hx Bd.returns (hb hby d11_9) hr
  · show Q11_21 Z a1 a2 a3 p8 kc11 p12 p13 h0 n0 _ T6.heap _
    rw [e6]
    exact ⟨rfl, N10, rfl⟩
def Q8_22 (Z : State) (a1 a2 a3 : Addr) (p8 : Int32) (kc11 : ClassId) (p12 : Int32) (h0 : Heap) (n0 : Nat) (v : Option Value) (h : Heap) (L : List Loc) : Prop := v = none ∧ Fr n0 L ∧ Keep h0 h [a3] ∧ Arh Z h a3 kc11 .int (8 : Int32) [(p8, (.int 0)), (p12, (.int 0))] [] (.int (0 : Int32))
set_option maxRecDepth 65536 in
set_option maxHeartbeats 40000000 in
theorem rm8_22 (l : Launch) (Z : State) (a0 : Array Value) (hw : ∀ d ∈ tables_1, d.before a0 Z = true) (ws : List Jvm.Cond) (a1 a2 a3 : Addr) (p8 : Int32) (kc11 : ClassId) (p12 : Int32) (h0 : Heap) (n0 : Nat) (Z0 : n0 ≤ h0.size) (F4 : Fld Z h0 a1 zs22 "counts" "[I" (.ref a3)) (F7 : Exa Z h0 a2 zs0) (F9 : Fld Z h0 a2 zs26 "ordinal" "I" (.int p8)) (F13 : Arh Z h0 a3 kc11 .int (8 : Int32) [(p12, (.int 0))] [] (.int (0 : Int32))) (hc14 : ¬ (p8 < (0 : Int32))) (hc15 : p8 < (8 : Int32)) (hc16 : ¬ (p8 = p12)) (g21 : n0 ≤ a3) :
    MetFree l zm7 (head1 (Jvm.Cond.code zm7 prog_30_method_2_code 3 none :: ws) ({ frames := 1, cells := 0, slots := 0, locals := 13 } : Room)) (fun a U => a = #[(.ref a1), (.ref a2), (.int 0)] ∧ Z.Warmed39 U.vm ∧ U.heap = h0) (fun _ _ _ _ _ => True) (fun _ U o U' => ∃ v L, o = .returned v ∧ Q8_22 Z a1 a2 a3 p8 kc11 p12 h0 n0 v U'.heap L ∧ FrameEnd U o U' L ({ frames := 1, cells := 0, slots := 0, locals := 13 } : Room).cells ({ frames := 1, cells := 0, slots := 0, locals := 13 } : Room).slots) := by
  refine MetFree.of_bodySF (plainFor_of_name pn_5) hisR ?_
  intro p e s m args below meth c s₁ Bd hml0 hP hK
  obtain ⟨rfl, hZ, hh⟩ := hP
  have hx := Bd.exec
  have hby := Bd.bytes
  have hml : c.maxLocals = 3 := hml0
  have hown : s.vm.findClass zs22 = some m.cls := findClass_of_methodNamed Bd.named
  have hnm := (name_of_methodNamed Bd.named Bd.method).1
  have X0 : Stand p l e ({ frames := 1, cells := 0, slots := 0, locals := 13 } : Room) s m #[(.ref a1), (.ref a2), (.int 0)] below meth c s₁ [] 0 0 := Stand.of_body Bd
  have e0 : s₁.heap = h0 := by rw [← hh, Bd.state]; rfl
  have N0 := Fr.nil n0
  refine own_pre (g' := mkF m 0 (lc13 a1 a2 0) []) (ef_3 m a1 a2 (0 : Int32)) ?_
  obtain ⟨T5, X5, e5, st5⟩ := getF X0 hx hZ hown (host := "") (Or.inl (ww hw 41 rfl)) Via.refl e0 F4 (g := (mkF m 1 (lc13 a1 a2 0) [(.ref a1)])) rfl rfl (hb hby d8_1)
  obtain ⟨_, T6, L6, X6, hQ6, st6⟩ := ocallU X5 hx hZ zm8 zm6 hown (ww hw 74 rfl) (ww hw 75 rfl) (ww hw 76 rfl) (by decide) (ww hw 78 rfl) (ww hw 77 rfl) (ww hw 80 rfl) (ww hw 79 rfl) e5 F7 (rm9_14 l Z a0 hw [] a2 p8 h0 n0 Z0 F9) (st := [(.ref a2), (.ref a3)]) rfl 1 rfl (by decide) (pc := 5) (Ls := (lc13 a1 a2 0)) hml rfl (lenOf pd_3 rfl) d8_5 hby
  obtain ⟨rfl, N6q, e6⟩ := hQ6
  have N10 := Fr.app N0 N6q
  obtain ⟨cl17, Ar17, q17, S17, N17, H17, G17⟩ := id F13
  have hin18 : ¬ (p8 < 0 ∨ cl17.slots.size ≤ (p8).toNatClampNeg) := inb_of S17 ⟨hc14, hc15⟩
  have hat18 : cl17.slots[(p8).toNatClampNeg]? = some (.int 0) := atH H17 hin18 (getH_miss hc14 hc16 rfl)
  refine own_go (U' := T6.setTop (mkF m 11 (lc13 a1 a2 0) [(.int 0), (.int 0), (.int p8), (.ref a3)])) (fun t k => oaloadN X0 hx hby d8_0 rfl rfl (st5 _ (oaloadN X5 hx hby d8_4 rfl rfl (st6 _ (odup2 X6 hx hby d8_8 rfl rfl (X6.iaload hx (j := p8) (v := (.int 0)) (own_at e6 Ar17.1) (State.isArrayOf_alike hZ.alike Ar17.2.1) Ar17.2.2 hin18 hat18 (g := (mkF m 9 (lc13 a1 a2 0) [(.int p8), (.ref a3), (.int p8), (.ref a3)])) rfl rfl (hb hby d8_9) _ (oiloadN X6 hx hby d8_10 rfl k))))))) ?_
  obtain ⟨cl19, Ar19, q19, S19, N19, H19, G19⟩ := id F13
  have hin20 : ¬ (p8 < 0 ∨ cl19.slots.size ≤ (p8).toNatClampNeg) := inb_of S19 ⟨hc14, hc15⟩
  obtain ⟨T20, h20, X20, e20, W20, st20⟩ := stI X6 hx hZ e6 Ar19 (j := p8) hin20 (g := (mkF m 20 (lc13 a1 a2 0) [(.int 0), (.int p8), (.ref a3)])) rfl rfl (hb hby d8_20)
  have N22 := Fr.snoc X20 N10 g21
  have f23 : Arh Z h20 a3 kc11 .int (8 : Int32) [(p8, (.int 0)), (p12, (.int 0))] [] (.int (0 : Int32)) := Arh.push Ar19 q19 S19 N19 H19 G19 (by rfl) W20 hin20
  refine own_go (U' := T20.setTop (mkF m 21 (lc13 a1 a2 0) [])) (fun t k => oifY (pc := 11) X6 hx hby d8_11 18 (by decide) (by decide) (oiconst X6 hx hby d8_18 (oiadd X6 hx hby d8_19 (st20 _ k)))) ?_
  obtain ⟨fs, hr, hrun, hended, hW, hsame⟩ := X20.leave (v := none) (fun _ => rfl)
  refine own_out ⟨_, _, ?_, hrun, hended, _, _, rfl, ?_, ⟨_, rfl⟩, hW, hsame.mono (by decide) (by decide)⟩
  · exact X20.returnOut hx Bd.returns (hb hby d8_21) hr
  · show Q8_22 Z a1 a2 a3 p8 kc11 p12 h0 n0 _ T20.heap _
    rw [e20]
    exact ⟨rfl, N22, ((Keep.refl h0 [a3]).wr W20 (Or.inl (List.mem_of_getElem? (i := 0) rfl))), f23⟩
def Q11_23 (Z : State) (a1 a2 a3 : Addr) (p8 : Int32) (kc11 : ClassId) (p12 p13 : Int32) (h0 : Heap) (n0 : Nat) (v : Option Value) (h : Heap) (L : List Loc) : Prop := v = some (.int 0) ∧ Fr n0 L ∧ h = h0
set_option maxRecDepth 65536 in
set_option maxHeartbeats 40000000 in
theorem rm11_23 (l : Launch) (Z : State) (a0 : Array Value) (hw : ∀ d ∈ tables_1, d.before a0 Z = true) (ws : List Jvm.Cond) (a1 a2 a3 : Addr) (p8 : Int32) (kc11 : ClassId) (p12 p13 : Int32) (h0 : Heap) (n0 : Nat) (Z0 : n0 ≤ h0.size) (F4 : Fld Z h0 a1 zs22 "counts" "[I" (.ref a3)) (F7 : Exa Z h0 a2 zs0) (F9 : Fld Z h0 a2 zs26 "ordinal" "I" (.int p8)) (F14 : Arh Z h0 a3 kc11 .int (8 : Int32) [(p12, (.int 0)), (p12, (.int 0)), (p13, (.int 0))] [] (.int (0 : Int32))) (hc15 : ¬ (p8 < (0 : Int32))) (hc16 : p8 < (8 : Int32)) (hc17 : ¬ (p8 = p12)) (hc18 : p8 = p13) :
    MetFree l zm10 (head1 (Jvm.Cond.code zm10 prog_30_method_5_code 2 (some .int) :: ws) ({ frames := 1, cells := 0, slots := 0, locals := 13 } : Room)) (fun a U => a = #[(.ref a1), (.ref a2)] ∧ Z.Warmed39 U.vm ∧ U.heap = h0) (fun _ _ _ _ _ => True) (fun _ U o U' => ∃ v L, o = .returned v ∧ Q11_23 Z a1 a2 a3 p8 kc11 p12 p13 h0 n0 v U'.heap L ∧ FrameEnd U o U' L ({ frames := 1, cells := 0, slots := 0, locals := 13 } : Room).cells ({ frames := 1, cells := 0, slots := 0, locals := 13 } : Room).slots) := by
  refine MetFree.of_bodySF (plainFor_of_name pn_5) hisR ?_
  intro p e s m args below meth c s₁ Bd hml0 hP hK
  obtain ⟨rfl, hZ, hh⟩ := hP
  have hx := Bd.exec
  have hby := Bd.bytes
  have hml : c.maxLocals = 2 := hml0
  have hown : s.vm.findClass zs22 = some m.cls := findClass_of_methodNamed Bd.named
  have hnm := (name_of_methodNamed Bd.named Bd.method).1
  have X0 : Stand p l e ({ frames := 1, cells := 0, slots := 0, locals := 13 } : Room) s m #[(.ref a1), (.ref a2)] below meth c s₁ [] 0 0 := Stand.of_body Bd
  have e0 : s₁.heap = h0 := by rw [← hh, Bd.state]; rfl
  have N0 := Fr.nil n0
  refine own_pre (g' := mkF m 0 (lc16 a1 a2) []) (ef_4 m a1 a2) ?_
  obtain ⟨T5, X5, e5, st5⟩ := getF X0 hx hZ hown (host := "") (Or.inl (ww hw 41 rfl)) Via.refl e0 F4 (g := (mkF m 1 (lc16 a1 a2) [(.ref a1)])) rfl rfl (hb hby d11_1)
  obtain ⟨_, T6, L6, X6, hQ6, st6⟩ := ocallU X5 hx hZ zm8 zm6 hown (ww hw 74 rfl) (ww hw 75 rfl) (ww hw 76 rfl) (by decide) (ww hw 78 rfl) (ww hw 77 rfl) (ww hw 80 rfl) (ww hw 79 rfl) e5 F7 (rm9_14 l Z a0 hw [] a2 p8 h0 n0 Z0 F9) (st := [(.ref a2), (.ref a3)]) rfl 1 rfl (by decide) (pc := 5) (Ls := (lc16 a1 a2)) hml rfl (lenOf pd_3 rfl) d11_5 hby
  obtain ⟨rfl, N6q, e6⟩ := hQ6
  have N10 := Fr.app N0 N6q
  obtain ⟨cl19, Ar19, q19, S19, N19, H19, G19⟩ := id F14
  have hin20 : ¬ (p8 < 0 ∨ cl19.slots.size ≤ (p8).toNatClampNeg) := inb_of S19 ⟨hc15, hc16⟩
  have hat20 : cl19.slots[(p8).toNatClampNeg]? = some (.int 0) := atH H19 hin20 (getH_miss hc15 hc17 (getH_miss hc15 hc17 (getH_hit hc15 hc18)))
  refine own_go (U' := T6.setTop (mkF m 9 (lc16 a1 a2) [(.int 0)])) (fun t k => oaloadN X0 hx hby d11_0 rfl rfl (st5 _ (oaloadN X5 hx hby d11_4 rfl rfl (st6 _ (X6.iaload hx (j := p8) (v := (.int 0)) (own_at e6 Ar19.1) (State.isArrayOf_alike hZ.alike Ar19.2.1) Ar19.2.2 hin20 hat20 (g := (mkF m 8 (lc16 a1 a2) [(.int p8), (.ref a3)])) rfl rfl (hb hby d11_8) _ k))))) ?_
  obtain ⟨fs, hr, hrun, hended, hW, hsame⟩ := X6.leave (v := some (.int 0)) (fun h => by rw [Bd.returns] at h; cases h)
  refine own_out ⟨_, _, ?_, hrun, hended, _, _, rfl, ?_, ⟨_, rfl⟩, hW, hsame.mono (by decide) (by decide)⟩
  · exact retI X6 hx Bd.returns (hb hby d11_9) hr
  · show Q11_23 Z a1 a2 a3 p8 kc11 p12 p13 h0 n0 _ T6.heap _
    rw [e6]
    exact ⟨rfl, N10, rfl⟩
def Q8_24 (Z : State) (a1 a2 a3 : Addr) (p8 : Int32) (kc11 : ClassId) (p12 : Int32) (h0 : Heap) (n0 : Nat) (v : Option Value) (h : Heap) (L : List Loc) : Prop := v = none ∧ Fr n0 L ∧ Keep h0 h [a3] ∧ Arh Z h a3 kc11 .int (8 : Int32) [(p8, (.int 1)), (p8, (.int 0)), (p12, (.int 0))] [] (.int (0 : Int32))
set_option maxRecDepth 65536 in
set_option maxHeartbeats 40000000 in
theorem rm8_24 (l : Launch) (Z : State) (a0 : Array Value) (hw : ∀ d ∈ tables_1, d.before a0 Z = true) (ws : List Jvm.Cond) (a1 a2 a3 : Addr) (p8 : Int32) (kc11 : ClassId) (p12 : Int32) (h0 : Heap) (n0 : Nat) (Z0 : n0 ≤ h0.size) (F4 : Fld Z h0 a1 zs22 "counts" "[I" (.ref a3)) (F7 : Exa Z h0 a2 zs0) (F9 : Fld Z h0 a2 zs26 "ordinal" "I" (.int p8)) (F13 : Arh Z h0 a3 kc11 .int (8 : Int32) [(p8, (.int 0)), (p12, (.int 0))] [] (.int (0 : Int32))) (hc14 : ¬ (p8 < (0 : Int32))) (hc15 : p8 < (8 : Int32)) (g20 : n0 ≤ a3) :
    MetFree l zm7 (head1 (Jvm.Cond.code zm7 prog_30_method_2_code 3 none :: ws) ({ frames := 1, cells := 0, slots := 0, locals := 13 } : Room)) (fun a U => a = #[(.ref a1), (.ref a2), (.int 1)] ∧ Z.Warmed39 U.vm ∧ U.heap = h0) (fun _ _ _ _ _ => True) (fun _ U o U' => ∃ v L, o = .returned v ∧ Q8_24 Z a1 a2 a3 p8 kc11 p12 h0 n0 v U'.heap L ∧ FrameEnd U o U' L ({ frames := 1, cells := 0, slots := 0, locals := 13 } : Room).cells ({ frames := 1, cells := 0, slots := 0, locals := 13 } : Room).slots) := by
  refine MetFree.of_bodySF (plainFor_of_name pn_5) hisR ?_
  intro p e s m args below meth c s₁ Bd hml0 hP hK
  obtain ⟨rfl, hZ, hh⟩ := hP
  have hx := Bd.exec
  have hby := Bd.bytes
  have hml : c.maxLocals = 3 := hml0
  have hown : s.vm.findClass zs22 = some m.cls := findClass_of_methodNamed Bd.named
  have hnm := (name_of_methodNamed Bd.named Bd.method).1
  have X0 : Stand p l e ({ frames := 1, cells := 0, slots := 0, locals := 13 } : Room) s m #[(.ref a1), (.ref a2), (.int 1)] below meth c s₁ [] 0 0 := Stand.of_body Bd
  have e0 : s₁.heap = h0 := by rw [← hh, Bd.state]; rfl
  have N0 := Fr.nil n0
  refine own_pre (g' := mkF m 0 (lc13 a1 a2 1) []) (ef_3 m a1 a2 (1 : Int32)) ?_
  obtain ⟨T5, X5, e5, st5⟩ := getF X0 hx hZ hown (host := "") (Or.inl (ww hw 41 rfl)) Via.refl e0 F4 (g := (mkF m 1 (lc13 a1 a2 1) [(.ref a1)])) rfl rfl (hb hby d8_1)
  obtain ⟨_, T6, L6, X6, hQ6, st6⟩ := ocallU X5 hx hZ zm8 zm6 hown (ww hw 74 rfl) (ww hw 75 rfl) (ww hw 76 rfl) (by decide) (ww hw 78 rfl) (ww hw 77 rfl) (ww hw 80 rfl) (ww hw 79 rfl) e5 F7 (rm9_14 l Z a0 hw [] a2 p8 h0 n0 Z0 F9) (st := [(.ref a2), (.ref a3)]) rfl 1 rfl (by decide) (pc := 5) (Ls := (lc13 a1 a2 1)) hml rfl (lenOf pd_3 rfl) d8_5 hby
  obtain ⟨rfl, N6q, e6⟩ := hQ6
  have N10 := Fr.app N0 N6q
  obtain ⟨cl16, Ar16, q16, S16, N16, H16, G16⟩ := id F13
  have hin17 : ¬ (p8 < 0 ∨ cl16.slots.size ≤ (p8).toNatClampNeg) := inb_of S16 ⟨hc14, hc15⟩
  have hat17 : cl16.slots[(p8).toNatClampNeg]? = some (.int 0) := atH H16 hin17 (getH_hit hc14 (rfl : p8 = p8))
  refine own_go (U' := T6.setTop (mkF m 11 (lc13 a1 a2 1) [(.int 1), (.int 0), (.int p8), (.ref a3)])) (fun t k => oaloadN X0 hx hby d8_0 rfl rfl (st5 _ (oaloadN X5 hx hby d8_4 rfl rfl (st6 _ (odup2 X6 hx hby d8_8 rfl rfl (X6.iaload hx (j := p8) (v := (.int 0)) (own_at e6 Ar16.1) (State.isArrayOf_alike hZ.alike Ar16.2.1) Ar16.2.2 hin17 hat17 (g := (mkF m 9 (lc13 a1 a2 1) [(.int p8), (.ref a3), (.int p8), (.ref a3)])) rfl rfl (hb hby d8_9) _ (oiloadN X6 hx hby d8_10 rfl k))))))) ?_
  obtain ⟨cl18, Ar18, q18, S18, N18, H18, G18⟩ := id F13
  have hin19 : ¬ (p8 < 0 ∨ cl18.slots.size ≤ (p8).toNatClampNeg) := inb_of S18 ⟨hc14, hc15⟩
  obtain ⟨T19, h19, X19, e19, W19, st19⟩ := stI X6 hx hZ e6 Ar18 (j := p8) hin19 (g := (mkF m 20 (lc13 a1 a2 1) [(.int 1), (.int p8), (.ref a3)])) rfl rfl (hb hby d8_20)
  have N21 := Fr.snoc X19 N10 g20
  have f22 : Arh Z h19 a3 kc11 .int (8 : Int32) [(p8, (.int 1)), (p8, (.int 0)), (p12, (.int 0))] [] (.int (0 : Int32)) := Arh.push Ar18 q18 S18 N18 H18 G18 (by rfl) W19 hin19
  refine own_go (U' := T19.setTop (mkF m 21 (lc13 a1 a2 1) [])) (fun t k => oifN X6 hx hby d8_11 (by decide) (oiconst X6 hx hby d8_14 (ogoto (pc := 15) X6 hx hby d8_15 19 (by decide) (oiadd X6 hx hby d8_19 (st19 _ k))))) ?_
  obtain ⟨fs, hr, hrun, hended, hW, hsame⟩ := X19.leave (v := none) (fun _ => rfl)
  refine own_out ⟨_, _, ?_, hrun, hended, _, _, rfl, ?_, ⟨_, rfl⟩, hW, hsame.mono (by decide) (by decide)⟩
  · exact X19.returnOut hx Bd.returns (hb hby d8_21) hr
  · show Q8_24 Z a1 a2 a3 p8 kc11 p12 h0 n0 _ T19.heap _
    rw [e19]
    exact ⟨rfl, N21, ((Keep.refl h0 [a3]).wr W19 (Or.inl (List.mem_of_getElem? (i := 0) rfl))), f22⟩
def Q10_25 (Z : State)  (h0 : Heap) (n0 : Nat) (v : Option Value) (h : Heap) (L : List Loc) : Prop := v = some (.int 1) ∧ Fr n0 L ∧ h = h0
set_option maxRecDepth 65536 in
set_option maxHeartbeats 40000000 in
theorem rm10_25 (l : Launch) (Z : State) (a0 : Array Value) (hw : ∀ d ∈ tables_1, d.before a0 Z = true) (ws : List Jvm.Cond)  (h0 : Heap) (n0 : Nat) (Z0 : n0 ≤ h0.size) :
    MetFree l zm9 (head1 (Jvm.Cond.code zm9 method_3_code 1 (some .int) :: ws) ({ frames := 0, cells := 0, slots := 0, locals := 0 } : Room)) (fun a U => a = #[(.int 1)] ∧ Z.Warmed39 U.vm ∧ U.heap = h0) (fun _ _ _ _ _ => True) (fun _ U o U' => ∃ v L, o = .returned v ∧ Q10_25 Z  h0 n0 v U'.heap L ∧ FrameEnd U o U' L ({ frames := 0, cells := 0, slots := 0, locals := 0 } : Room).cells ({ frames := 0, cells := 0, slots := 0, locals := 0 } : Room).slots) := by
  refine MetFree.of_bodySF (plainFor_of_name pn_0) hisR ?_
  intro p e s m args below meth c s₁ Bd hml0 hP hK
  obtain ⟨rfl, hZ, hh⟩ := hP
  have hx := Bd.exec
  have hby := Bd.bytes
  have hml : c.maxLocals = 1 := hml0
  have hown : s.vm.findClass zs10 = some m.cls := findClass_of_methodNamed Bd.named
  have hnm := (name_of_methodNamed Bd.named Bd.method).1
  have X0 : Stand p l e ({ frames := 0, cells := 0, slots := 0, locals := 0 } : Room) s m #[(.int 1)] below meth c s₁ [] 0 0 := Stand.of_body Bd
  have e0 : s₁.heap = h0 := by rw [← hh, Bd.state]; rfl
  have N0 := Fr.nil n0
  refine own_pre (g' := mkF m 0 (lc6 1) []) (ef_0 m (1 : Int32)) ?_
  refine own_go (U' := s₁.setTop (mkF m 1 (lc6 1) [(.int 1)])) (fun t k => oiloadN X0 hx hby d10_0 rfl k) ?_
  refine own_go (U' := s₁.setTop (mkF m 9 (lc6 1) [(.int 1)])) (fun t k => oifN X0 hx hby d10_1 (by decide) (oiconst X0 hx hby d10_4 (ogoto (pc := 5) X0 hx hby d10_5 9 (by decide) k))) ?_
  obtain ⟨fs, hr, hrun, hended, hW, hsame⟩ := X0.leave (v := some (.int 1)) (fun h => by rw [Bd.returns] at h; cases h)
  refine own_out ⟨_, _, ?_, hrun, hended, _, _, rfl, ?_, ⟨_, rfl⟩, hW, hsame.mono (by decide) (by decide)⟩
  · exact retI X0 hx Bd.returns (hb hby d10_9) hr
  · show Q10_25 Z  h0 n0 _ s₁.heap _
    rw [e0]
    exact ⟨rfl, N0, rfl⟩
def Q11_26 (Z : State) (a1 a2 a3 : Addr) (p8 : Int32) (kc11 : ClassId) (p12 : Int32) (h0 : Heap) (n0 : Nat) (v : Option Value) (h : Heap) (L : List Loc) : Prop := v = some (.int 1) ∧ Fr n0 L ∧ h = h0
set_option maxRecDepth 65536 in
set_option maxHeartbeats 40000000 in
theorem rm11_26 (l : Launch) (Z : State) (a0 : Array Value) (hw : ∀ d ∈ tables_1, d.before a0 Z = true) (ws : List Jvm.Cond) (a1 a2 a3 : Addr) (p8 : Int32) (kc11 : ClassId) (p12 : Int32) (h0 : Heap) (n0 : Nat) (Z0 : n0 ≤ h0.size) (F4 : Fld Z h0 a1 zs22 "counts" "[I" (.ref a3)) (F7 : Exa Z h0 a2 zs0) (F9 : Fld Z h0 a2 zs26 "ordinal" "I" (.int p8)) (F13 : Arh Z h0 a3 kc11 .int (8 : Int32) [(p8, (.int 1)), (p8, (.int 0)), (p12, (.int 0))] [] (.int (0 : Int32))) (hc14 : ¬ (p8 < (0 : Int32))) (hc15 : p8 < (8 : Int32)) :
    MetFree l zm10 (head1 (Jvm.Cond.code zm10 prog_30_method_5_code 2 (some .int) :: ws) ({ frames := 1, cells := 0, slots := 0, locals := 13 } : Room)) (fun a U => a = #[(.ref a1), (.ref a2)] ∧ Z.Warmed39 U.vm ∧ U.heap = h0) (fun _ _ _ _ _ => True) (fun _ U o U' => ∃ v L, o = .returned v ∧ Q11_26 Z a1 a2 a3 p8 kc11 p12 h0 n0 v U'.heap L ∧ FrameEnd U o U' L ({ frames := 1, cells := 0, slots := 0, locals := 13 } : Room).cells ({ frames := 1, cells := 0, slots := 0, locals := 13 } : Room).slots) := by
  refine MetFree.of_bodySF (plainFor_of_name pn_5) hisR ?_
  intro p e s m args below meth c s₁ Bd hml0 hP hK
  obtain ⟨rfl, hZ, hh⟩ := hP
  have hx := Bd.exec
  have hby := Bd.bytes
  have hml : c.maxLocals = 2 := hml0
  have hown : s.vm.findClass zs22 = some m.cls := findClass_of_methodNamed Bd.named
  have hnm := (name_of_methodNamed Bd.named Bd.method).1
  have X0 : Stand p l e ({ frames := 1, cells := 0, slots := 0, locals := 13 } : Room) s m #[(.ref a1), (.ref a2)] below meth c s₁ [] 0 0 := Stand.of_body Bd
  have e0 : s₁.heap = h0 := by rw [← hh, Bd.state]; rfl
  have N0 := Fr.nil n0
  refine own_pre (g' := mkF m 0 (lc16 a1 a2) []) (ef_4 m a1 a2) ?_
  obtain ⟨T5, X5, e5, st5⟩ := getF X0 hx hZ hown (host := "") (Or.inl (ww hw 41 rfl)) Via.refl e0 F4 (g := (mkF m 1 (lc16 a1 a2) [(.ref a1)])) rfl rfl (hb hby d11_1)
  obtain ⟨_, T6, L6, X6, hQ6, st6⟩ := ocallU X5 hx hZ zm8 zm6 hown (ww hw 74 rfl) (ww hw 75 rfl) (ww hw 76 rfl) (by decide) (ww hw 78 rfl) (ww hw 77 rfl) (ww hw 80 rfl) (ww hw 79 rfl) e5 F7 (rm9_14 l Z a0 hw [] a2 p8 h0 n0 Z0 F9) (st := [(.ref a2), (.ref a3)]) rfl 1 rfl (by decide) (pc := 5) (Ls := (lc16 a1 a2)) hml rfl (lenOf pd_3 rfl) d11_5 hby
  obtain ⟨rfl, N6q, e6⟩ := hQ6
  have N10 := Fr.app N0 N6q
  obtain ⟨cl16, Ar16, q16, S16, N16, H16, G16⟩ := id F13
  have hin17 : ¬ (p8 < 0 ∨ cl16.slots.size ≤ (p8).toNatClampNeg) := inb_of S16 ⟨hc14, hc15⟩
  have hat17 : cl16.slots[(p8).toNatClampNeg]? = some (.int 1) := atH H16 hin17 (getH_hit hc14 (rfl : p8 = p8))
  refine own_go (U' := T6.setTop (mkF m 9 (lc16 a1 a2) [(.int 1)])) (fun t k => oaloadN X0 hx hby d11_0 rfl rfl (st5 _ (oaloadN X5 hx hby d11_4 rfl rfl (st6 _ (X6.iaload hx (j := p8) (v := (.int 1)) (own_at e6 Ar16.1) (State.isArrayOf_alike hZ.alike Ar16.2.1) Ar16.2.2 hin17 hat17 (g := (mkF m 8 (lc16 a1 a2) [(.int p8), (.ref a3)])) rfl rfl (hb hby d11_8) _ k))))) ?_
  obtain ⟨fs, hr, hrun, hended, hW, hsame⟩ := X6.leave (v := some (.int 1)) (fun h => by rw [Bd.returns] at h; cases h)
  refine own_out ⟨_, _, ?_, hrun, hended, _, _, rfl, ?_, ⟨_, rfl⟩, hW, hsame.mono (by decide) (by decide)⟩
  · exact retI X6 hx Bd.returns (hb hby d11_9) hr
  · show Q11_26 Z a1 a2 a3 p8 kc11 p12 h0 n0 _ T6.heap _
    rw [e6]
    exact ⟨rfl, N10, rfl⟩
def Q11_27 (Z : State) (a1 a2 a3 : Addr) (p8 : Int32) (kc11 : ClassId) (p12 p13 : Int32) (h0 : Heap) (n0 : Nat) (v : Option Value) (h : Heap) (L : List Loc) : Prop := v = some (.int 1) ∧ Fr n0 L ∧ h = h0
set_option maxRecDepth 65536 in
set_option maxHeartbeats 40000000 in
theorem rm11_27 (l : Launch) (Z : State) (a0 : Array Value) (hw : ∀ d ∈ tables_1, d.before a0 Z = true) (ws : List Jvm.Cond) (a1 a2 a3 : Addr) (p8 : Int32) (kc11 : ClassId) (p12 p13 : Int32) (h0 : Heap) (n0 : Nat) (Z0 : n0 ≤ h0.size) (F4 : Fld Z h0 a1 zs22 "counts" "[I" (.ref a3)) (F7 : Exa Z h0 a2 zs0) (F9 : Fld Z h0 a2 zs26 "ordinal" "I" (.int p8)) (F14 : Arh Z h0 a3 kc11 .int (8 : Int32) [(p12, (.int 1)), (p12, (.int 0)), (p13, (.int 0))] [] (.int (0 : Int32))) (hc15 : ¬ (p8 < (0 : Int32))) (hc16 : p8 < (8 : Int32)) (hc17 : p8 = p12) :
    MetFree l zm10 (head1 (Jvm.Cond.code zm10 prog_30_method_5_code 2 (some .int) :: ws) ({ frames := 1, cells := 0, slots := 0, locals := 13 } : Room)) (fun a U => a = #[(.ref a1), (.ref a2)] ∧ Z.Warmed39 U.vm ∧ U.heap = h0) (fun _ _ _ _ _ => True) (fun _ U o U' => ∃ v L, o = .returned v ∧ Q11_27 Z a1 a2 a3 p8 kc11 p12 p13 h0 n0 v U'.heap L ∧ FrameEnd U o U' L ({ frames := 1, cells := 0, slots := 0, locals := 13 } : Room).cells ({ frames := 1, cells := 0, slots := 0, locals := 13 } : Room).slots) := by
  refine MetFree.of_bodySF (plainFor_of_name pn_5) hisR ?_
  intro p e s m args below meth c s₁ Bd hml0 hP hK
  obtain ⟨rfl, hZ, hh⟩ := hP
  have hx := Bd.exec
  have hby := Bd.bytes
  have hml : c.maxLocals = 2 := hml0
  have hown : s.vm.findClass zs22 = some m.cls := findClass_of_methodNamed Bd.named
  have hnm := (name_of_methodNamed Bd.named Bd.method).1
  have X0 : Stand p l e ({ frames := 1, cells := 0, slots := 0, locals := 13 } : Room) s m #[(.ref a1), (.ref a2)] below meth c s₁ [] 0 0 := Stand.of_body Bd
  have e0 : s₁.heap = h0 := by rw [← hh, Bd.state]; rfl
  have N0 := Fr.nil n0
  refine own_pre (g' := mkF m 0 (lc16 a1 a2) []) (ef_4 m a1 a2) ?_
  obtain ⟨T5, X5, e5, st5⟩ := getF X0 hx hZ hown (host := "") (Or.inl (ww hw 41 rfl)) Via.refl e0 F4 (g := (mkF m 1 (lc16 a1 a2) [(.ref a1)])) rfl rfl (hb hby d11_1)
  obtain ⟨_, T6, L6, X6, hQ6, st6⟩ := ocallU X5 hx hZ zm8 zm6 hown (ww hw 74 rfl) (ww hw 75 rfl) (ww hw 76 rfl) (by decide) (ww hw 78 rfl) (ww hw 77 rfl) (ww hw 80 rfl) (ww hw 79 rfl) e5 F7 (rm9_14 l Z a0 hw [] a2 p8 h0 n0 Z0 F9) (st := [(.ref a2), (.ref a3)]) rfl 1 rfl (by decide) (pc := 5) (Ls := (lc16 a1 a2)) hml rfl (lenOf pd_3 rfl) d11_5 hby
  obtain ⟨rfl, N6q, e6⟩ := hQ6
  have N10 := Fr.app N0 N6q
  obtain ⟨cl18, Ar18, q18, S18, N18, H18, G18⟩ := id F14
  have hin19 : ¬ (p8 < 0 ∨ cl18.slots.size ≤ (p8).toNatClampNeg) := inb_of S18 ⟨hc15, hc16⟩
  have hat19 : cl18.slots[(p8).toNatClampNeg]? = some (.int 1) := atH H18 hin19 (getH_hit hc15 hc17)
  refine own_go (U' := T6.setTop (mkF m 9 (lc16 a1 a2) [(.int 1)])) (fun t k => oaloadN X0 hx hby d11_0 rfl rfl (st5 _ (oaloadN X5 hx hby d11_4 rfl rfl (st6 _ (X6.iaload hx (j := p8) (v := (.int 1)) (own_at e6 Ar18.1) (State.isArrayOf_alike hZ.alike Ar18.2.1) Ar18.2.2 hin19 hat19 (g := (mkF m 8 (lc16 a1 a2) [(.int p8), (.ref a3)])) rfl rfl (hb hby d11_8) _ k))))) ?_
  obtain ⟨fs, hr, hrun, hended, hW, hsame⟩ := X6.leave (v := some (.int 1)) (fun h => by rw [Bd.returns] at h; cases h)
  refine own_out ⟨_, _, ?_, hrun, hended, _, _, rfl, ?_, ⟨_, rfl⟩, hW, hsame.mono (by decide) (by decide)⟩
  · exact retI X6 hx Bd.returns (hb hby d11_9) hr
  · show Q11_27 Z a1 a2 a3 p8 kc11 p12 p13 h0 n0 _ T6.heap _
    rw [e6]
    exact ⟨rfl, N10, rfl⟩
def Q11_28 (Z : State) (a1 a2 a3 : Addr) (p8 : Int32) (kc11 : ClassId) (p12 p13 : Int32) (h0 : Heap) (n0 : Nat) (v : Option Value) (h : Heap) (L : List Loc) : Prop := v = some (.int 0) ∧ Fr n0 L ∧ h = h0
set_option maxRecDepth 65536 in
set_option maxHeartbeats 40000000 in
theorem rm11_28 (l : Launch) (Z : State) (a0 : Array Value) (hw : ∀ d ∈ tables_1, d.before a0 Z = true) (ws : List Jvm.Cond) (a1 a2 a3 : Addr) (p8 : Int32) (kc11 : ClassId) (p12 p13 : Int32) (h0 : Heap) (n0 : Nat) (Z0 : n0 ≤ h0.size) (F4 : Fld Z h0 a1 zs22 "counts" "[I" (.ref a3)) (F7 : Exa Z h0 a2 zs0) (F9 : Fld Z h0 a2 zs26 "ordinal" "I" (.int p8)) (F14 : Arh Z h0 a3 kc11 .int (8 : Int32) [(p12, (.int 1)), (p12, (.int 0)), (p13, (.int 0))] [] (.int (0 : Int32))) (hc15 : ¬ (p8 < (0 : Int32))) (hc16 : p8 < (8 : Int32)) (hc17 : ¬ (p8 = p12)) (hc18 : ¬ (p8 = p13)) :
    MetFree l zm10 (head1 (Jvm.Cond.code zm10 prog_30_method_5_code 2 (some .int) :: ws) ({ frames := 1, cells := 0, slots := 0, locals := 13 } : Room)) (fun a U => a = #[(.ref a1), (.ref a2)] ∧ Z.Warmed39 U.vm ∧ U.heap = h0) (fun _ _ _ _ _ => True) (fun _ U o U' => ∃ v L, o = .returned v ∧ Q11_28 Z a1 a2 a3 p8 kc11 p12 p13 h0 n0 v U'.heap L ∧ FrameEnd U o U' L ({ frames := 1, cells := 0, slots := 0, locals := 13 } : Room).cells ({ frames := 1, cells := 0, slots := 0, locals := 13 } : Room).slots) := by
  refine MetFree.of_bodySF (plainFor_of_name pn_5) hisR ?_
  intro p e s m args below meth c s₁ Bd hml0 hP hK
  obtain ⟨rfl, hZ, hh⟩ := hP
  have hx := Bd.exec
  have hby := Bd.bytes
  have hml : c.maxLocals = 2 := hml0
  have hown : s.vm.findClass zs22 = some m.cls := findClass_of_methodNamed Bd.named
  have hnm := (name_of_methodNamed Bd.named Bd.method).1
  have X0 : Stand p l e ({ frames := 1, cells := 0, slots := 0, locals := 13 } : Room) s m #[(.ref a1), (.ref a2)] below meth c s₁ [] 0 0 := Stand.of_body Bd
  have e0 : s₁.heap = h0 := by rw [← hh, Bd.state]; rfl
  have N0 := Fr.nil n0
  refine own_pre (g' := mkF m 0 (lc16 a1 a2) []) (ef_4 m a1 a2) ?_
  obtain ⟨T5, X5, e5, st5⟩ := getF X0 hx hZ hown (host := "") (Or.inl (ww hw 41 rfl)) Via.refl e0 F4 (g := (mkF m 1 (lc16 a1 a2) [(.ref a1)])) rfl rfl (hb hby d11_1)
  obtain ⟨_, T6, L6, X6, hQ6, st6⟩ := ocallU X5 hx hZ zm8 zm6 hown (ww hw 74 rfl) (ww hw 75 rfl) (ww hw 76 rfl) (by decide) (ww hw 78 rfl) (ww hw 77 rfl) (ww hw 80 rfl) (ww hw 79 rfl) e5 F7 (rm9_14 l Z a0 hw [] a2 p8 h0 n0 Z0 F9) (st := [(.ref a2), (.ref a3)]) rfl 1 rfl (by decide) (pc := 5) (Ls := (lc16 a1 a2)) hml rfl (lenOf pd_3 rfl) d11_5 hby
  obtain ⟨rfl, N6q, e6⟩ := hQ6
  have N10 := Fr.app N0 N6q
  obtain ⟨cl19, Ar19, q19, S19, N19, H19, G19⟩ := id F14
  have hin20 : ¬ (p8 < 0 ∨ cl19.slots.size ≤ (p8).toNatClampNeg) := inb_of S19 ⟨hc15, hc16⟩
  have hat20 : cl19.slots[(p8).toNatClampNeg]? = some (.int 0) := atH H19 hin20 (getH_miss hc15 hc17 (getH_miss hc15 hc17 (getH_miss hc15 hc18 rfl)))
  refine own_go (U' := T6.setTop (mkF m 9 (lc16 a1 a2) [(.int 0)])) (fun t k => oaloadN X0 hx hby d11_0 rfl rfl (st5 _ (oaloadN X5 hx hby d11_4 rfl rfl (st6 _ (X6.iaload hx (j := p8) (v := (.int 0)) (own_at e6 Ar19.1) (State.isArrayOf_alike hZ.alike Ar19.2.1) Ar19.2.2 hin20 hat20 (g := (mkF m 8 (lc16 a1 a2) [(.int p8), (.ref a3)])) rfl rfl (hb hby d11_8) _ k))))) ?_
  obtain ⟨fs, hr, hrun, hended, hW, hsame⟩ := X6.leave (v := some (.int 0)) (fun h => by rw [Bd.returns] at h; cases h)
  refine own_out ⟨_, _, ?_, hrun, hended, _, _, rfl, ?_, ⟨_, rfl⟩, hW, hsame.mono (by decide) (by decide)⟩
  · exact retI X6 hx Bd.returns (hb hby d11_9) hr
  · show Q11_28 Z a1 a2 a3 p8 kc11 p12 p13 h0 n0 _ T6.heap _
    rw [e6]
    exact ⟨rfl, N10, rfl⟩
def Q11_29 (Z : State) (a1 a2 a3 : Addr) (p8 : Int32) (kc11 : ClassId) (p12 p13 : Int32) (h0 : Heap) (n0 : Nat) (v : Option Value) (h : Heap) (L : List Loc) : Prop := v = some (.int 0) ∧ Fr n0 L ∧ h = h0
set_option maxRecDepth 65536 in
set_option maxHeartbeats 40000000 in
theorem rm11_29 (l : Launch) (Z : State) (a0 : Array Value) (hw : ∀ d ∈ tables_1, d.before a0 Z = true) (ws : List Jvm.Cond) (a1 a2 a3 : Addr) (p8 : Int32) (kc11 : ClassId) (p12 p13 : Int32) (h0 : Heap) (n0 : Nat) (Z0 : n0 ≤ h0.size) (F4 : Fld Z h0 a1 zs22 "counts" "[I" (.ref a3)) (F7 : Exa Z h0 a2 zs0) (F9 : Fld Z h0 a2 zs26 "ordinal" "I" (.int p8)) (F14 : Arh Z h0 a3 kc11 .int (8 : Int32) [(p12, (.int 1)), (p12, (.int 0)), (p13, (.int 0))] [] (.int (0 : Int32))) (hc15 : ¬ (p8 < (0 : Int32))) (hc16 : p8 < (8 : Int32)) (hc17 : ¬ (p8 = p12)) (hc18 : p8 = p13) :
    MetFree l zm10 (head1 (Jvm.Cond.code zm10 prog_30_method_5_code 2 (some .int) :: ws) ({ frames := 1, cells := 0, slots := 0, locals := 13 } : Room)) (fun a U => a = #[(.ref a1), (.ref a2)] ∧ Z.Warmed39 U.vm ∧ U.heap = h0) (fun _ _ _ _ _ => True) (fun _ U o U' => ∃ v L, o = .returned v ∧ Q11_29 Z a1 a2 a3 p8 kc11 p12 p13 h0 n0 v U'.heap L ∧ FrameEnd U o U' L ({ frames := 1, cells := 0, slots := 0, locals := 13 } : Room).cells ({ frames := 1, cells := 0, slots := 0, locals := 13 } : Room).slots) := by
  refine MetFree.of_bodySF (plainFor_of_name pn_5) hisR ?_
  intro p e s m args below meth c s₁ Bd hml0 hP hK
  obtain ⟨rfl, hZ, hh⟩ := hP
  have hx := Bd.exec
  have hby := Bd.bytes
  have hml : c.maxLocals = 2 := hml0
  have hown : s.vm.findClass zs22 = some m.cls := findClass_of_methodNamed Bd.named
  have hnm := (name_of_methodNamed Bd.named Bd.method).1
  have X0 : Stand p l e ({ frames := 1, cells := 0, slots := 0, locals := 13 } : Room) s m #[(.ref a1), (.ref a2)] below meth c s₁ [] 0 0 := Stand.of_body Bd
  have e0 : s₁.heap = h0 := by rw [← hh, Bd.state]; rfl
  have N0 := Fr.nil n0
  refine own_pre (g' := mkF m 0 (lc16 a1 a2) []) (ef_4 m a1 a2) ?_
  obtain ⟨T5, X5, e5, st5⟩ := getF X0 hx hZ hown (host := "") (Or.inl (ww hw 41 rfl)) Via.refl e0 F4 (g := (mkF m 1 (lc16 a1 a2) [(.ref a1)])) rfl rfl (hb hby d11_1)
  obtain ⟨_, T6, L6, X6, hQ6, st6⟩ := ocallU X5 hx hZ zm8 zm6 hown (ww hw 74 rfl) (ww hw 75 rfl) (ww hw 76 rfl) (by decide) (ww hw 78 rfl) (ww hw 77 rfl) (ww hw 80 rfl) (ww hw 79 rfl) e5 F7 (rm9_14 l Z a0 hw [] a2 p8 h0 n0 Z0 F9) (st := [(.ref a2), (.ref a3)]) rfl 1 rfl (by decide) (pc := 5) (Ls := (lc16 a1 a2)) hml rfl (lenOf pd_3 rfl) d11_5 hby
  obtain ⟨rfl, N6q, e6⟩ := hQ6
  have N10 := Fr.app N0 N6q
  obtain ⟨cl19, Ar19, q19, S19, N19, H19, G19⟩ := id F14
  have hin20 : ¬ (p8 < 0 ∨ cl19.slots.size ≤ (p8).toNatClampNeg) := inb_of S19 ⟨hc15, hc16⟩
  have hat20 : cl19.slots[(p8).toNatClampNeg]? = some (.int 0) := atH H19 hin20 (getH_miss hc15 hc17 (getH_miss hc15 hc17 (getH_hit hc15 hc18)))
  refine own_go (U' := T6.setTop (mkF m 9 (lc16 a1 a2) [(.int 0)])) (fun t k => oaloadN X0 hx hby d11_0 rfl rfl (st5 _ (oaloadN X5 hx hby d11_4 rfl rfl (st6 _ (X6.iaload hx (j := p8) (v := (.int 0)) (own_at e6 Ar19.1) (State.isArrayOf_alike hZ.alike Ar19.2.1) Ar19.2.2 hin20 hat20 (g := (mkF m 8 (lc16 a1 a2) [(.int p8), (.ref a3)])) rfl rfl (hb hby d11_8) _ k))))) ?_
  obtain ⟨fs, hr, hrun, hended, hW, hsame⟩ := X6.leave (v := some (.int 0)) (fun h => by rw [Bd.returns] at h; cases h)
  refine own_out ⟨_, _, ?_, hrun, hended, _, _, rfl, ?_, ⟨_, rfl⟩, hW, hsame.mono (by decide) (by decide)⟩
  · exact retI X6 hx Bd.returns (hb hby d11_9) hr
  · show Q11_29 Z a1 a2 a3 p8 kc11 p12 p13 h0 n0 _ T6.heap _
    rw [e6]
    exact ⟨rfl, N10, rfl⟩
def Q8_30 (Z : State) (a1 a2 a3 : Addr) (p8 : Int32) (kc11 : ClassId) (p12 : Int32) (h0 : Heap) (n0 : Nat) (v : Option Value) (h : Heap) (L : List Loc) : Prop := v = none ∧ Fr n0 L ∧ Keep h0 h [a3] ∧ Arh Z h a3 kc11 .int (8 : Int32) [(p8, (.int 1)), (p12, (.int 0))] [] (.int (0 : Int32))
set_option maxRecDepth 65536 in
set_option maxHeartbeats 40000000 in
theorem rm8_30 (l : Launch) (Z : State) (a0 : Array Value) (hw : ∀ d ∈ tables_1, d.before a0 Z = true) (ws : List Jvm.Cond) (a1 a2 a3 : Addr) (p8 : Int32) (kc11 : ClassId) (p12 : Int32) (h0 : Heap) (n0 : Nat) (Z0 : n0 ≤ h0.size) (F4 : Fld Z h0 a1 zs22 "counts" "[I" (.ref a3)) (F7 : Exa Z h0 a2 zs0) (F9 : Fld Z h0 a2 zs26 "ordinal" "I" (.int p8)) (F13 : Arh Z h0 a3 kc11 .int (8 : Int32) [(p12, (.int 0))] [] (.int (0 : Int32))) (hc14 : ¬ (p8 < (0 : Int32))) (hc15 : p8 < (8 : Int32)) (hc16 : p8 = p12) (g21 : n0 ≤ a3) :
    MetFree l zm7 (head1 (Jvm.Cond.code zm7 prog_30_method_2_code 3 none :: ws) ({ frames := 1, cells := 0, slots := 0, locals := 13 } : Room)) (fun a U => a = #[(.ref a1), (.ref a2), (.int 1)] ∧ Z.Warmed39 U.vm ∧ U.heap = h0) (fun _ _ _ _ _ => True) (fun _ U o U' => ∃ v L, o = .returned v ∧ Q8_30 Z a1 a2 a3 p8 kc11 p12 h0 n0 v U'.heap L ∧ FrameEnd U o U' L ({ frames := 1, cells := 0, slots := 0, locals := 13 } : Room).cells ({ frames := 1, cells := 0, slots := 0, locals := 13 } : Room).slots) := by
  refine MetFree.of_bodySF (plainFor_of_name pn_5) hisR ?_
  intro p e s m args below meth c s₁ Bd hml0 hP hK
  obtain ⟨rfl, hZ, hh⟩ := hP
  have hx := Bd.exec
  have hby := Bd.bytes
  have hml : c.maxLocals = 3 := hml0
  have hown : s.vm.findClass zs22 = some m.cls := findClass_of_methodNamed Bd.named
  have hnm := (name_of_methodNamed Bd.named Bd.method).1
  have X0 : Stand p l e ({ frames := 1, cells := 0, slots := 0, locals := 13 } : Room) s m #[(.ref a1), (.ref a2), (.int 1)] below meth c s₁ [] 0 0 := Stand.of_body Bd
  have e0 : s₁.heap = h0 := by rw [← hh, Bd.state]; rfl
  have N0 := Fr.nil n0
  refine own_pre (g' := mkF m 0 (lc13 a1 a2 1) []) (ef_3 m a1 a2 (1 : Int32)) ?_
  obtain ⟨T5, X5, e5, st5⟩ := getF X0 hx hZ hown (host := "") (Or.inl (ww hw 41 rfl)) Via.refl e0 F4 (g := (mkF m 1 (lc13 a1 a2 1) [(.ref a1)])) rfl rfl (hb hby d8_1)
  obtain ⟨_, T6, L6, X6, hQ6, st6⟩ := ocallU X5 hx hZ zm8 zm6 hown (ww hw 74 rfl) (ww hw 75 rfl) (ww hw 76 rfl) (by decide) (ww hw 78 rfl) (ww hw 77 rfl) (ww hw 80 rfl) (ww hw 79 rfl) e5 F7 (rm9_14 l Z a0 hw [] a2 p8 h0 n0 Z0 F9) (st := [(.ref a2), (.ref a3)]) rfl 1 rfl (by decide) (pc := 5) (Ls := (lc13 a1 a2 1)) hml rfl (lenOf pd_3 rfl) d8_5 hby
  obtain ⟨rfl, N6q, e6⟩ := hQ6
  have N10 := Fr.app N0 N6q
  obtain ⟨cl17, Ar17, q17, S17, N17, H17, G17⟩ := id F13
  have hin18 : ¬ (p8 < 0 ∨ cl17.slots.size ≤ (p8).toNatClampNeg) := inb_of S17 ⟨hc14, hc15⟩
  have hat18 : cl17.slots[(p8).toNatClampNeg]? = some (.int 0) := atH H17 hin18 (getH_hit hc14 hc16)
  refine own_go (U' := T6.setTop (mkF m 11 (lc13 a1 a2 1) [(.int 1), (.int 0), (.int p8), (.ref a3)])) (fun t k => oaloadN X0 hx hby d8_0 rfl rfl (st5 _ (oaloadN X5 hx hby d8_4 rfl rfl (st6 _ (odup2 X6 hx hby d8_8 rfl rfl (X6.iaload hx (j := p8) (v := (.int 0)) (own_at e6 Ar17.1) (State.isArrayOf_alike hZ.alike Ar17.2.1) Ar17.2.2 hin18 hat18 (g := (mkF m 9 (lc13 a1 a2 1) [(.int p8), (.ref a3), (.int p8), (.ref a3)])) rfl rfl (hb hby d8_9) _ (oiloadN X6 hx hby d8_10 rfl k))))))) ?_
  obtain ⟨cl19, Ar19, q19, S19, N19, H19, G19⟩ := id F13
  have hin20 : ¬ (p8 < 0 ∨ cl19.slots.size ≤ (p8).toNatClampNeg) := inb_of S19 ⟨hc14, hc15⟩
  obtain ⟨T20, h20, X20, e20, W20, st20⟩ := stI X6 hx hZ e6 Ar19 (j := p8) hin20 (g := (mkF m 20 (lc13 a1 a2 1) [(.int 1), (.int p8), (.ref a3)])) rfl rfl (hb hby d8_20)
  have N22 := Fr.snoc X20 N10 g21
  have f23 : Arh Z h20 a3 kc11 .int (8 : Int32) [(p8, (.int 1)), (p12, (.int 0))] [] (.int (0 : Int32)) := Arh.push Ar19 q19 S19 N19 H19 G19 (by rfl) W20 hin20
  refine own_go (U' := T20.setTop (mkF m 21 (lc13 a1 a2 1) [])) (fun t k => oifN X6 hx hby d8_11 (by decide) (oiconst X6 hx hby d8_14 (ogoto (pc := 15) X6 hx hby d8_15 19 (by decide) (oiadd X6 hx hby d8_19 (st20 _ k))))) ?_
  obtain ⟨fs, hr, hrun, hended, hW, hsame⟩ := X20.leave (v := none) (fun _ => rfl)
  refine own_out ⟨_, _, ?_, hrun, hended, _, _, rfl, ?_, ⟨_, rfl⟩, hW, hsame.mono (by decide) (by decide)⟩
  · exact X20.returnOut hx Bd.returns (hb hby d8_21) hr
  · show Q8_30 Z a1 a2 a3 p8 kc11 p12 h0 n0 _ T20.heap _
    rw [e20]
    exact ⟨rfl, N22, ((Keep.refl h0 [a3]).wr W20 (Or.inl (List.mem_of_getElem? (i := 0) rfl))), f23⟩
def Q8_31 (Z : State) (a1 a2 a3 : Addr) (p8 : Int32) (kc11 : ClassId) (p12 : Int32) (h0 : Heap) (n0 : Nat) (v : Option Value) (h : Heap) (L : List Loc) : Prop := v = none ∧ Fr n0 L ∧ Keep h0 h [a3] ∧ Arh Z h a3 kc11 .int (8 : Int32) [(p8, (.int 1)), (p8, (.int 1)), (p12, (.int 0))] [] (.int (0 : Int32))
set_option maxRecDepth 65536 in
set_option maxHeartbeats 40000000 in
theorem rm8_31 (l : Launch) (Z : State) (a0 : Array Value) (hw : ∀ d ∈ tables_1, d.before a0 Z = true) (ws : List Jvm.Cond) (a1 a2 a3 : Addr) (p8 : Int32) (kc11 : ClassId) (p12 : Int32) (h0 : Heap) (n0 : Nat) (Z0 : n0 ≤ h0.size) (F4 : Fld Z h0 a1 zs22 "counts" "[I" (.ref a3)) (F7 : Exa Z h0 a2 zs0) (F9 : Fld Z h0 a2 zs26 "ordinal" "I" (.int p8)) (F13 : Arh Z h0 a3 kc11 .int (8 : Int32) [(p8, (.int 1)), (p12, (.int 0))] [] (.int (0 : Int32))) (hc14 : ¬ (p8 < (0 : Int32))) (hc15 : p8 < (8 : Int32)) (g20 : n0 ≤ a3) :
    MetFree l zm7 (head1 (Jvm.Cond.code zm7 prog_30_method_2_code 3 none :: ws) ({ frames := 1, cells := 0, slots := 0, locals := 13 } : Room)) (fun a U => a = #[(.ref a1), (.ref a2), (.int 0)] ∧ Z.Warmed39 U.vm ∧ U.heap = h0) (fun _ _ _ _ _ => True) (fun _ U o U' => ∃ v L, o = .returned v ∧ Q8_31 Z a1 a2 a3 p8 kc11 p12 h0 n0 v U'.heap L ∧ FrameEnd U o U' L ({ frames := 1, cells := 0, slots := 0, locals := 13 } : Room).cells ({ frames := 1, cells := 0, slots := 0, locals := 13 } : Room).slots) := by
  refine MetFree.of_bodySF (plainFor_of_name pn_5) hisR ?_
  intro p e s m args below meth c s₁ Bd hml0 hP hK
  obtain ⟨rfl, hZ, hh⟩ := hP
  have hx := Bd.exec
  have hby := Bd.bytes
  have hml : c.maxLocals = 3 := hml0
  have hown : s.vm.findClass zs22 = some m.cls := findClass_of_methodNamed Bd.named
  have hnm := (name_of_methodNamed Bd.named Bd.method).1
  have X0 : Stand p l e ({ frames := 1, cells := 0, slots := 0, locals := 13 } : Room) s m #[(.ref a1), (.ref a2), (.int 0)] below meth c s₁ [] 0 0 := Stand.of_body Bd
  have e0 : s₁.heap = h0 := by rw [← hh, Bd.state]; rfl
  have N0 := Fr.nil n0
  refine own_pre (g' := mkF m 0 (lc13 a1 a2 0) []) (ef_3 m a1 a2 (0 : Int32)) ?_
  obtain ⟨T5, X5, e5, st5⟩ := getF X0 hx hZ hown (host := "") (Or.inl (ww hw 41 rfl)) Via.refl e0 F4 (g := (mkF m 1 (lc13 a1 a2 0) [(.ref a1)])) rfl rfl (hb hby d8_1)
  obtain ⟨_, T6, L6, X6, hQ6, st6⟩ := ocallU X5 hx hZ zm8 zm6 hown (ww hw 74 rfl) (ww hw 75 rfl) (ww hw 76 rfl) (by decide) (ww hw 78 rfl) (ww hw 77 rfl) (ww hw 80 rfl) (ww hw 79 rfl) e5 F7 (rm9_14 l Z a0 hw [] a2 p8 h0 n0 Z0 F9) (st := [(.ref a2), (.ref a3)]) rfl 1 rfl (by decide) (pc := 5) (Ls := (lc13 a1 a2 0)) hml rfl (lenOf pd_3 rfl) d8_5 hby
  obtain ⟨rfl, N6q, e6⟩ := hQ6
  have N10 := Fr.app N0 N6q
  obtain ⟨cl16, Ar16, q16, S16, N16, H16, G16⟩ := id F13
  have hin17 : ¬ (p8 < 0 ∨ cl16.slots.size ≤ (p8).toNatClampNeg) := inb_of S16 ⟨hc14, hc15⟩
  have hat17 : cl16.slots[(p8).toNatClampNeg]? = some (.int 1) := atH H16 hin17 (getH_hit hc14 (rfl : p8 = p8))
  refine own_go (U' := T6.setTop (mkF m 11 (lc13 a1 a2 0) [(.int 0), (.int 1), (.int p8), (.ref a3)])) (fun t k => oaloadN X0 hx hby d8_0 rfl rfl (st5 _ (oaloadN X5 hx hby d8_4 rfl rfl (st6 _ (odup2 X6 hx hby d8_8 rfl rfl (X6.iaload hx (j := p8) (v := (.int 1)) (own_at e6 Ar16.1) (State.isArrayOf_alike hZ.alike Ar16.2.1) Ar16.2.2 hin17 hat17 (g := (mkF m 9 (lc13 a1 a2 0) [(.int p8), (.ref a3), (.int p8), (.ref a3)])) rfl rfl (hb hby d8_9) _ (oiloadN X6 hx hby d8_10 rfl k))))))) ?_
  obtain ⟨cl18, Ar18, q18, S18, N18, H18, G18⟩ := id F13
  have hin19 : ¬ (p8 < 0 ∨ cl18.slots.size ≤ (p8).toNatClampNeg) := inb_of S18 ⟨hc14, hc15⟩
  obtain ⟨T19, h19, X19, e19, W19, st19⟩ := stI X6 hx hZ e6 Ar18 (j := p8) hin19 (g := (mkF m 20 (lc13 a1 a2 0) [(.int 1), (.int p8), (.ref a3)])) rfl rfl (hb hby d8_20)
  have N21 := Fr.snoc X19 N10 g20
  have f22 : Arh Z h19 a3 kc11 .int (8 : Int32) [(p8, (.int 1)), (p8, (.int 1)), (p12, (.int 0))] [] (.int (0 : Int32)) := Arh.push Ar18 q18 S18 N18 H18 G18 (by rfl) W19 hin19
  refine own_go (U' := T19.setTop (mkF m 21 (lc13 a1 a2 0) [])) (fun t k => oifY (pc := 11) X6 hx hby d8_11 18 (by decide) (by decide) (oiconst X6 hx hby d8_18 (oiadd X6 hx hby d8_19 (st19 _ k)))) ?_
  obtain ⟨fs, hr, hrun, hended, hW, hsame⟩ := X19.leave (v := none) (fun _ => rfl)
  refine own_out ⟨_, _, ?_, hrun, hended, _, _, rfl, ?_, ⟨_, rfl⟩, hW, hsame.mono (by decide) (by decide)⟩
  · exact X19.returnOut hx Bd.returns (hb hby d8_21) hr
  · show Q8_31 Z a1 a2 a3 p8 kc11 p12 h0 n0 _ T19.heap _
    rw [e19]
    exact ⟨rfl, N21, ((Keep.refl h0 [a3]).wr W19 (Or.inl (List.mem_of_getElem? (i := 0) rfl))), f22⟩
def Q11_32 (Z : State) (a1 a2 a3 : Addr) (p8 : Int32) (kc11 : ClassId) (p12 : Int32) (h0 : Heap) (n0 : Nat) (v : Option Value) (h : Heap) (L : List Loc) : Prop := v = some (.int 1) ∧ Fr n0 L ∧ h = h0
set_option maxRecDepth 65536 in
set_option maxHeartbeats 40000000 in
theorem rm11_32 (l : Launch) (Z : State) (a0 : Array Value) (hw : ∀ d ∈ tables_1, d.before a0 Z = true) (ws : List Jvm.Cond) (a1 a2 a3 : Addr) (p8 : Int32) (kc11 : ClassId) (p12 : Int32) (h0 : Heap) (n0 : Nat) (Z0 : n0 ≤ h0.size) (F4 : Fld Z h0 a1 zs22 "counts" "[I" (.ref a3)) (F7 : Exa Z h0 a2 zs0) (F9 : Fld Z h0 a2 zs26 "ordinal" "I" (.int p8)) (F13 : Arh Z h0 a3 kc11 .int (8 : Int32) [(p8, (.int 1)), (p8, (.int 1)), (p12, (.int 0))] [] (.int (0 : Int32))) (hc14 : ¬ (p8 < (0 : Int32))) (hc15 : p8 < (8 : Int32)) :
    MetFree l zm10 (head1 (Jvm.Cond.code zm10 prog_30_method_5_code 2 (some .int) :: ws) ({ frames := 1, cells := 0, slots := 0, locals := 13 } : Room)) (fun a U => a = #[(.ref a1), (.ref a2)] ∧ Z.Warmed39 U.vm ∧ U.heap = h0) (fun _ _ _ _ _ => True) (fun _ U o U' => ∃ v L, o = .returned v ∧ Q11_32 Z a1 a2 a3 p8 kc11 p12 h0 n0 v U'.heap L ∧ FrameEnd U o U' L ({ frames := 1, cells := 0, slots := 0, locals := 13 } : Room).cells ({ frames := 1, cells := 0, slots := 0, locals := 13 } : Room).slots) := by
  refine MetFree.of_bodySF (plainFor_of_name pn_5) hisR ?_
  intro p e s m args below meth c s₁ Bd hml0 hP hK
  obtain ⟨rfl, hZ, hh⟩ := hP
  have hx := Bd.exec
  have hby := Bd.bytes
  have hml : c.maxLocals = 2 := hml0
  have hown : s.vm.findClass zs22 = some m.cls := findClass_of_methodNamed Bd.named
  have hnm := (name_of_methodNamed Bd.named Bd.method).1
  have X0 : Stand p l e ({ frames := 1, cells := 0, slots := 0, locals := 13 } : Room) s m #[(.ref a1), (.ref a2)] below meth c s₁ [] 0 0 := Stand.of_body Bd
  have e0 : s₁.heap = h0 := by rw [← hh, Bd.state]; rfl
  have N0 := Fr.nil n0
  refine own_pre (g' := mkF m 0 (lc16 a1 a2) []) (ef_4 m a1 a2) ?_
  obtain ⟨T5, X5, e5, st5⟩ := getF X0 hx hZ hown (host := "") (Or.inl (ww hw 41 rfl)) Via.refl e0 F4 (g := (mkF m 1 (lc16 a1 a2) [(.ref a1)])) rfl rfl (hb hby d11_1)
  obtain ⟨_, T6, L6, X6, hQ6, st6⟩ := ocallU X5 hx hZ zm8 zm6 hown (ww hw 74 rfl) (ww hw 75 rfl) (ww hw 76 rfl) (by decide) (ww hw 78 rfl) (ww hw 77 rfl) (ww hw 80 rfl) (ww hw 79 rfl) e5 F7 (rm9_14 l Z a0 hw [] a2 p8 h0 n0 Z0 F9) (st := [(.ref a2), (.ref a3)]) rfl 1 rfl (by decide) (pc := 5) (Ls := (lc16 a1 a2)) hml rfl (lenOf pd_3 rfl) d11_5 hby
  obtain ⟨rfl, N6q, e6⟩ := hQ6
  have N10 := Fr.app N0 N6q
  obtain ⟨cl16, Ar16, q16, S16, N16, H16, G16⟩ := id F13
  have hin17 : ¬ (p8 < 0 ∨ cl16.slots.size ≤ (p8).toNatClampNeg) := inb_of S16 ⟨hc14, hc15⟩
  have hat17 : cl16.slots[(p8).toNatClampNeg]? = some (.int 1) := atH H16 hin17 (getH_hit hc14 (rfl : p8 = p8))
  refine own_go (U' := T6.setTop (mkF m 9 (lc16 a1 a2) [(.int 1)])) (fun t k => oaloadN X0 hx hby d11_0 rfl rfl (st5 _ (oaloadN X5 hx hby d11_4 rfl rfl (st6 _ (X6.iaload hx (j := p8) (v := (.int 1)) (own_at e6 Ar16.1) (State.isArrayOf_alike hZ.alike Ar16.2.1) Ar16.2.2 hin17 hat17 (g := (mkF m 8 (lc16 a1 a2) [(.int p8), (.ref a3)])) rfl rfl (hb hby d11_8) _ k))))) ?_
  obtain ⟨fs, hr, hrun, hended, hW, hsame⟩ := X6.leave (v := some (.int 1)) (fun h => by rw [Bd.returns] at h; cases h)
  refine own_out ⟨_, _, ?_, hrun, hended, _, _, rfl, ?_, ⟨_, rfl⟩, hW, hsame.mono (by decide) (by decide)⟩
  · exact retI X6 hx Bd.returns (hb hby d11_9) hr
  · show Q11_32 Z a1 a2 a3 p8 kc11 p12 h0 n0 _ T6.heap _
    rw [e6]
    exact ⟨rfl, N10, rfl⟩
def Q11_33 (Z : State) (a1 a2 a3 : Addr) (p8 : Int32) (kc11 : ClassId) (p12 p13 : Int32) (h0 : Heap) (n0 : Nat) (v : Option Value) (h : Heap) (L : List Loc) : Prop := v = some (.int 1) ∧ Fr n0 L ∧ h = h0
set_option maxRecDepth 65536 in
set_option maxHeartbeats 40000000 in
theorem rm11_33 (l : Launch) (Z : State) (a0 : Array Value) (hw : ∀ d ∈ tables_1, d.before a0 Z = true) (ws : List Jvm.Cond) (a1 a2 a3 : Addr) (p8 : Int32) (kc11 : ClassId) (p12 p13 : Int32) (h0 : Heap) (n0 : Nat) (Z0 : n0 ≤ h0.size) (F4 : Fld Z h0 a1 zs22 "counts" "[I" (.ref a3)) (F7 : Exa Z h0 a2 zs0) (F9 : Fld Z h0 a2 zs26 "ordinal" "I" (.int p8)) (F14 : Arh Z h0 a3 kc11 .int (8 : Int32) [(p12, (.int 1)), (p12, (.int 1)), (p13, (.int 0))] [] (.int (0 : Int32))) (hc15 : ¬ (p8 < (0 : Int32))) (hc16 : p8 < (8 : Int32)) (hc17 : p8 = p12) :
    MetFree l zm10 (head1 (Jvm.Cond.code zm10 prog_30_method_5_code 2 (some .int) :: ws) ({ frames := 1, cells := 0, slots := 0, locals := 13 } : Room)) (fun a U => a = #[(.ref a1), (.ref a2)] ∧ Z.Warmed39 U.vm ∧ U.heap = h0) (fun _ _ _ _ _ => True) (fun _ U o U' => ∃ v L, o = .returned v ∧ Q11_33 Z a1 a2 a3 p8 kc11 p12 p13 h0 n0 v U'.heap L ∧ FrameEnd U o U' L ({ frames := 1, cells := 0, slots := 0, locals := 13 } : Room).cells ({ frames := 1, cells := 0, slots := 0, locals := 13 } : Room).slots) := by
  refine MetFree.of_bodySF (plainFor_of_name pn_5) hisR ?_
  intro p e s m args below meth c s₁ Bd hml0 hP hK
  obtain ⟨rfl, hZ, hh⟩ := hP
  have hx := Bd.exec
  have hby := Bd.bytes
  have hml : c.maxLocals = 2 := hml0
  have hown : s.vm.findClass zs22 = some m.cls := findClass_of_methodNamed Bd.named
  have hnm := (name_of_methodNamed Bd.named Bd.method).1
  have X0 : Stand p l e ({ frames := 1, cells := 0, slots := 0, locals := 13 } : Room) s m #[(.ref a1), (.ref a2)] below meth c s₁ [] 0 0 := Stand.of_body Bd
  have e0 : s₁.heap = h0 := by rw [← hh, Bd.state]; rfl
  have N0 := Fr.nil n0
  refine own_pre (g' := mkF m 0 (lc16 a1 a2) []) (ef_4 m a1 a2) ?_
  obtain ⟨T5, X5, e5, st5⟩ := getF X0 hx hZ hown (host := "") (Or.inl (ww hw 41 rfl)) Via.refl e0 F4 (g := (mkF m 1 (lc16 a1 a2) [(.ref a1)])) rfl rfl (hb hby d11_1)
  obtain ⟨_, T6, L6, X6, hQ6, st6⟩ := ocallU X5 hx hZ zm8 zm6 hown (ww hw 74 rfl) (ww hw 75 rfl) (ww hw 76 rfl) (by decide) (ww hw 78 rfl) (ww hw 77 rfl) (ww hw 80 rfl) (ww hw 79 rfl) e5 F7 (rm9_14 l Z a0 hw [] a2 p8 h0 n0 Z0 F9) (st := [(.ref a2), (.ref a3)]) rfl 1 rfl (by decide) (pc := 5) (Ls := (lc16 a1 a2)) hml rfl (lenOf pd_3 rfl) d11_5 hby
  obtain ⟨rfl, N6q, e6⟩ := hQ6
  have N10 := Fr.app N0 N6q
  obtain ⟨cl18, Ar18, q18, S18, N18, H18, G18⟩ := id F14
  have hin19 : ¬ (p8 < 0 ∨ cl18.slots.size ≤ (p8).toNatClampNeg) := inb_of S18 ⟨hc15, hc16⟩
  have hat19 : cl18.slots[(p8).toNatClampNeg]? = some (.int 1) := atH H18 hin19 (getH_hit hc15 hc17)
  refine own_go (U' := T6.setTop (mkF m 9 (lc16 a1 a2) [(.int 1)])) (fun t k => oaloadN X0 hx hby d11_0 rfl rfl (st5 _ (oaloadN X5 hx hby d11_4 rfl rfl (st6 _ (X6.iaload hx (j := p8) (v := (.int 1)) (own_at e6 Ar18.1) (State.isArrayOf_alike hZ.alike Ar18.2.1) Ar18.2.2 hin19 hat19 (g := (mkF m 8 (lc16 a1 a2) [(.int p8), (.ref a3)])) rfl rfl (hb hby d11_8) _ k))))) ?_
  obtain ⟨fs, hr, hrun, hended, hW, hsame⟩ := X6.leave (v := some (.int 1)) (fun h => by rw [Bd.returns] at h; cases h)
  refine own_out ⟨_, _, ?_, hrun, hended, _, _, rfl, ?_, ⟨_, rfl⟩, hW, hsame.mono (by decide) (by decide)⟩
  · exact retI X6 hx Bd.returns (hb hby d11_9) hr
  · show Q11_33 Z a1 a2 a3 p8 kc11 p12 p13 h0 n0 _ T6.heap _
    rw [e6]
    exact ⟨rfl, N10, rfl⟩
def Q11_34 (Z : State) (a1 a2 a3 : Addr) (p8 : Int32) (kc11 : ClassId) (p12 p13 : Int32) (h0 : Heap) (n0 : Nat) (v : Option Value) (h : Heap) (L : List Loc) : Prop := v = some (.int 0) ∧ Fr n0 L ∧ h = h0
set_option maxRecDepth 65536 in
set_option maxHeartbeats 40000000 in
theorem rm11_34 (l : Launch) (Z : State) (a0 : Array Value) (hw : ∀ d ∈ tables_1, d.before a0 Z = true) (ws : List Jvm.Cond) (a1 a2 a3 : Addr) (p8 : Int32) (kc11 : ClassId) (p12 p13 : Int32) (h0 : Heap) (n0 : Nat) (Z0 : n0 ≤ h0.size) (F4 : Fld Z h0 a1 zs22 "counts" "[I" (.ref a3)) (F7 : Exa Z h0 a2 zs0) (F9 : Fld Z h0 a2 zs26 "ordinal" "I" (.int p8)) (F14 : Arh Z h0 a3 kc11 .int (8 : Int32) [(p12, (.int 1)), (p12, (.int 1)), (p13, (.int 0))] [] (.int (0 : Int32))) (hc15 : ¬ (p8 < (0 : Int32))) (hc16 : p8 < (8 : Int32)) (hc17 : ¬ (p8 = p12)) (hc18 : ¬ (p8 = p13)) :
    MetFree l zm10 (head1 (Jvm.Cond.code zm10 prog_30_method_5_code 2 (some .int) :: ws) ({ frames := 1, cells := 0, slots := 0, locals := 13 } : Room)) (fun a U => a = #[(.ref a1), (.ref a2)] ∧ Z.Warmed39 U.vm ∧ U.heap = h0) (fun _ _ _ _ _ => True) (fun _ U o U' => ∃ v L, o = .returned v ∧ Q11_34 Z a1 a2 a3 p8 kc11 p12 p13 h0 n0 v U'.heap L ∧ FrameEnd U o U' L ({ frames := 1, cells := 0, slots := 0, locals := 13 } : Room).cells ({ frames := 1, cells := 0, slots := 0, locals := 13 } : Room).slots) := by
  refine MetFree.of_bodySF (plainFor_of_name pn_5) hisR ?_
  intro p e s m args below meth c s₁ Bd hml0 hP hK
  obtain ⟨rfl, hZ, hh⟩ := hP
  have hx := Bd.exec
  have hby := Bd.bytes
  have hml : c.maxLocals = 2 := hml0
  have hown : s.vm.findClass zs22 = some m.cls := findClass_of_methodNamed Bd.named
  have hnm := (name_of_methodNamed Bd.named Bd.method).1
  have X0 : Stand p l e ({ frames := 1, cells := 0, slots := 0, locals := 13 } : Room) s m #[(.ref a1), (.ref a2)] below meth c s₁ [] 0 0 := Stand.of_body Bd
  have e0 : s₁.heap = h0 := by rw [← hh, Bd.state]; rfl
  have N0 := Fr.nil n0
  refine own_pre (g' := mkF m 0 (lc16 a1 a2) []) (ef_4 m a1 a2) ?_
  obtain ⟨T5, X5, e5, st5⟩ := getF X0 hx hZ hown (host := "") (Or.inl (ww hw 41 rfl)) Via.refl e0 F4 (g := (mkF m 1 (lc16 a1 a2) [(.ref a1)])) rfl rfl (hb hby d11_1)
  obtain ⟨_, T6, L6, X6, hQ6, st6⟩ := ocallU X5 hx hZ zm8 zm6 hown (ww hw 74 rfl) (ww hw 75 rfl) (ww hw 76 rfl) (by decide) (ww hw 78 rfl) (ww hw 77 rfl) (ww hw 80 rfl) (ww hw 79 rfl) e5 F7 (rm9_14 l Z a0 hw [] a2 p8 h0 n0 Z0 F9) (st := [(.ref a2), (.ref a3)]) rfl 1 rfl (by decide) (pc := 5) (Ls := (lc16 a1 a2)) hml rfl (lenOf pd_3 rfl) d11_5 hby
  obtain ⟨rfl, N6q, e6⟩ := hQ6
  have N10 := Fr.app N0 N6q
  obtain ⟨cl19, Ar19, q19, S19, N19, H19, G19⟩ := id F14
  have hin20 : ¬ (p8 < 0 ∨ cl19.slots.size ≤ (p8).toNatClampNeg) := inb_of S19 ⟨hc15, hc16⟩
  have hat20 : cl19.slots[(p8).toNatClampNeg]? = some (.int 0) := atH H19 hin20 (getH_miss hc15 hc17 (getH_miss hc15 hc17 (getH_miss hc15 hc18 rfl)))
  refine own_go (U' := T6.setTop (mkF m 9 (lc16 a1 a2) [(.int 0)])) (fun t k => oaloadN X0 hx hby d11_0 rfl rfl (st5 _ (oaloadN X5 hx hby d11_4 rfl rfl (st6 _ (X6.iaload hx (j := p8) (v := (.int 0)) (own_at e6 Ar19.1) (State.isArrayOf_alike hZ.alike Ar19.2.1) Ar19.2.2 hin20 hat20 (g := (mkF m 8 (lc16 a1 a2) [(.int p8), (.ref a3)])) rfl rfl (hb hby d11_8) _ k))))) ?_
  obtain ⟨fs, hr, hrun, hended, hW, hsame⟩ := X6.leave (v := some (.int 0)) (fun h => by rw [Bd.returns] at h; cases h)
  refine own_out ⟨_, _, ?_, hrun, hended, _, _, rfl, ?_, ⟨_, rfl⟩, hW, hsame.mono (by decide) (by decide)⟩
  · exact retI X6 hx Bd.returns (hb hby d11_9) hr
  · show Q11_34 Z a1 a2 a3 p8 kc11 p12 p13 h0 n0 _ T6.heap _
    rw [e6]
    exact ⟨rfl, N10, rfl⟩
def Q8_35 (Z : State) (a1 a2 a3 : Addr) (p8 : Int32) (kc11 : ClassId) (p12 : Int32) (h0 : Heap) (n0 : Nat) (v : Option Value) (h : Heap) (L : List Loc) : Prop := v = none ∧ Fr n0 L ∧ Keep h0 h [a3] ∧ Arh Z h a3 kc11 .int (8 : Int32) [(p8, (.int 1)), (p12, (.int 0))] [] (.int (0 : Int32))
set_option maxRecDepth 65536 in
set_option maxHeartbeats 40000000 in
theorem rm8_35 (l : Launch) (Z : State) (a0 : Array Value) (hw : ∀ d ∈ tables_1, d.before a0 Z = true) (ws : List Jvm.Cond) (a1 a2 a3 : Addr) (p8 : Int32) (kc11 : ClassId) (p12 : Int32) (h0 : Heap) (n0 : Nat) (Z0 : n0 ≤ h0.size) (F4 : Fld Z h0 a1 zs22 "counts" "[I" (.ref a3)) (F7 : Exa Z h0 a2 zs0) (F9 : Fld Z h0 a2 zs26 "ordinal" "I" (.int p8)) (F13 : Arh Z h0 a3 kc11 .int (8 : Int32) [(p12, (.int 0))] [] (.int (0 : Int32))) (hc14 : ¬ (p8 < (0 : Int32))) (hc15 : p8 < (8 : Int32)) (hc16 : ¬ (p8 = p12)) (g21 : n0 ≤ a3) :
    MetFree l zm7 (head1 (Jvm.Cond.code zm7 prog_30_method_2_code 3 none :: ws) ({ frames := 1, cells := 0, slots := 0, locals := 13 } : Room)) (fun a U => a = #[(.ref a1), (.ref a2), (.int 1)] ∧ Z.Warmed39 U.vm ∧ U.heap = h0) (fun _ _ _ _ _ => True) (fun _ U o U' => ∃ v L, o = .returned v ∧ Q8_35 Z a1 a2 a3 p8 kc11 p12 h0 n0 v U'.heap L ∧ FrameEnd U o U' L ({ frames := 1, cells := 0, slots := 0, locals := 13 } : Room).cells ({ frames := 1, cells := 0, slots := 0, locals := 13 } : Room).slots) := by
  refine MetFree.of_bodySF (plainFor_of_name pn_5) hisR ?_
  intro p e s m args below meth c s₁ Bd hml0 hP hK
  obtain ⟨rfl, hZ, hh⟩ := hP
  have hx := Bd.exec
  have hby := Bd.bytes
  have hml : c.maxLocals = 3 := hml0
  have hown : s.vm.findClass zs22 = some m.cls := findClass_of_methodNamed Bd.named
  have hnm := (name_of_methodNamed Bd.named Bd.method).1
  have X0 : Stand p l e ({ frames := 1, cells := 0, slots := 0, locals := 13 } : Room) s m #[(.ref a1), (.ref a2), (.int 1)] below meth c s₁ [] 0 0 := Stand.of_body Bd
  have e0 : s₁.heap = h0 := by rw [← hh, Bd.state]; rfl
  have N0 := Fr.nil n0
  refine own_pre (g' := mkF m 0 (lc13 a1 a2 1) []) (ef_3 m a1 a2 (1 : Int32)) ?_
  obtain ⟨T5, X5, e5, st5⟩ := getF X0 hx hZ hown (host := "") (Or.inl (ww hw 41 rfl)) Via.refl e0 F4 (g := (mkF m 1 (lc13 a1 a2 1) [(.ref a1)])) rfl rfl (hb hby d8_1)
  obtain ⟨_, T6, L6, X6, hQ6, st6⟩ := ocallU X5 hx hZ zm8 zm6 hown (ww hw 74 rfl) (ww hw 75 rfl) (ww hw 76 rfl) (by decide) (ww hw 78 rfl) (ww hw 77 rfl) (ww hw 80 rfl) (ww hw 79 rfl) e5 F7 (rm9_14 l Z a0 hw [] a2 p8 h0 n0 Z0 F9) (st := [(.ref a2), (.ref a3)]) rfl 1 rfl (by decide) (pc := 5) (Ls := (lc13 a1 a2 1)) hml rfl (lenOf pd_3 rfl) d8_5 hby
  obtain ⟨rfl, N6q, e6⟩ := hQ6
  have N10 := Fr.app N0 N6q
  obtain ⟨cl17, Ar17, q17, S17, N17, H17, G17⟩ := id F13
  have hin18 : ¬ (p8 < 0 ∨ cl17.slots.size ≤ (p8).toNatClampNeg) := inb_of S17 ⟨hc14, hc15⟩
  have hat18 : cl17.slots[(p8).toNatClampNeg]? = some (.int 0) := atH H17 hin18 (getH_miss hc14 hc16 rfl)
  refine own_go (U' := T6.setTop (mkF m 11 (lc13 a1 a2 1) [(.int 1), (.int 0), (.int p8), (.ref a3)])) (fun t k => oaloadN X0 hx hby d8_0 rfl rfl (st5 _ (oaloadN X5 hx hby d8_4 rfl rfl (st6 _ (odup2 X6 hx hby d8_8 rfl rfl (X6.iaload hx (j := p8) (v := (.int 0)) (own_at e6 Ar17.1) (State.isArrayOf_alike hZ.alike Ar17.2.1) Ar17.2.2 hin18 hat18 (g := (mkF m 9 (lc13 a1 a2 1) [(.int p8), (.ref a3), (.int p8), (.ref a3)])) rfl rfl (hb hby d8_9) _ (oiloadN X6 hx hby d8_10 rfl k))))))) ?_
  obtain ⟨cl19, Ar19, q19, S19, N19, H19, G19⟩ := id F13
  have hin20 : ¬ (p8 < 0 ∨ cl19.slots.size ≤ (p8).toNatClampNeg) := inb_of S19 ⟨hc14, hc15⟩
  obtain ⟨T20, h20, X20, e20, W20, st20⟩ := stI X6 hx hZ e6 Ar19 (j := p8) hin20 (g := (mkF m 20 (lc13 a1 a2 1) [(.int 1), (.int p8), (.ref a3)])) rfl rfl (hb hby d8_20)
  have N22 := Fr.snoc X20 N10 g21
  have f23 : Arh Z h20 a3 kc11 .int (8 : Int32) [(p8, (.int 1)), (p12, (.int 0))] [] (.int (0 : Int32)) := Arh.push Ar19 q19 S19 N19 H19 G19 (by rfl) W20 hin20
  refine own_go (U' := T20.setTop (mkF m 21 (lc13 a1 a2 1) [])) (fun t k => oifN X6 hx hby d8_11 (by decide) (oiconst X6 hx hby d8_14 (ogoto (pc := 15) X6 hx hby d8_15 19 (by decide) (oiadd X6 hx hby d8_19 (st20 _ k))))) ?_
  obtain ⟨fs, hr, hrun, hended, hW, hsame⟩ := X20.leave (v := none) (fun _ => rfl)
  refine own_out ⟨_, _, ?_, hrun, hended, _, _, rfl, ?_, ⟨_, rfl⟩, hW, hsame.mono (by decide) (by decide)⟩
  · exact X20.returnOut hx Bd.returns (hb hby d8_21) hr
  · show Q8_35 Z a1 a2 a3 p8 kc11 p12 h0 n0 _ T20.heap _
    rw [e20]
    exact ⟨rfl, N22, ((Keep.refl h0 [a3]).wr W20 (Or.inl (List.mem_of_getElem? (i := 0) rfl))), f23⟩
def Q11_36 (Z : State) (a1 a2 a3 : Addr) (p8 : Int32) (kc11 : ClassId) (p12 p13 : Int32) (h0 : Heap) (n0 : Nat) (v : Option Value) (h : Heap) (L : List Loc) : Prop := v = some (.int 0) ∧ Fr n0 L ∧ h = h0
set_option maxRecDepth 65536 in
set_option maxHeartbeats 40000000 in
theorem rm11_36 (l : Launch) (Z : State) (a0 : Array Value) (hw : ∀ d ∈ tables_1, d.before a0 Z = true) (ws : List Jvm.Cond) (a1 a2 a3 : Addr) (p8 : Int32) (kc11 : ClassId) (p12 p13 : Int32) (h0 : Heap) (n0 : Nat) (Z0 : n0 ≤ h0.size) (F4 : Fld Z h0 a1 zs22 "counts" "[I" (.ref a3)) (F7 : Exa Z h0 a2 zs0) (F9 : Fld Z h0 a2 zs26 "ordinal" "I" (.int p8)) (F14 : Arh Z h0 a3 kc11 .int (8 : Int32) [(p12, (.int 1)), (p12, (.int 1)), (p13, (.int 0))] [] (.int (0 : Int32))) (hc15 : ¬ (p8 < (0 : Int32))) (hc16 : p8 < (8 : Int32)) (hc17 : ¬ (p8 = p12)) (hc18 : p8 = p13) :
    MetFree l zm10 (head1 (Jvm.Cond.code zm10 prog_30_method_5_code 2 (some .int) :: ws) ({ frames := 1, cells := 0, slots := 0, locals := 13 } : Room)) (fun a U => a = #[(.ref a1), (.ref a2)] ∧ Z.Warmed39 U.vm ∧ U.heap = h0) (fun _ _ _ _ _ => True) (fun _ U o U' => ∃ v L, o = .returned v ∧ Q11_36 Z a1 a2 a3 p8 kc11 p12 p13 h0 n0 v U'.heap L ∧ FrameEnd U o U' L ({ frames := 1, cells := 0, slots := 0, locals := 13 } : Room).cells ({ frames := 1, cells := 0, slots := 0, locals := 13 } : Room).slots) := by
  refine MetFree.of_bodySF (plainFor_of_name pn_5) hisR ?_
  intro p e s m args below meth c s₁ Bd hml0 hP hK
  obtain ⟨rfl, hZ, hh⟩ := hP
  have hx := Bd.exec
  have hby := Bd.bytes
  have hml : c.maxLocals = 2 := hml0
  have hown : s.vm.findClass zs22 = some m.cls := findClass_of_methodNamed Bd.named
  have hnm := (name_of_methodNamed Bd.named Bd.method).1
  have X0 : Stand p l e ({ frames := 1, cells := 0, slots := 0, locals := 13 } : Room) s m #[(.ref a1), (.ref a2)] below meth c s₁ [] 0 0 := Stand.of_body Bd
  have e0 : s₁.heap = h0 := by rw [← hh, Bd.state]; rfl
  have N0 := Fr.nil n0
  refine own_pre (g' := mkF m 0 (lc16 a1 a2) []) (ef_4 m a1 a2) ?_
  obtain ⟨T5, X5, e5, st5⟩ := getF X0 hx hZ hown (host := "") (Or.inl (ww hw 41 rfl)) Via.refl e0 F4 (g := (mkF m 1 (lc16 a1 a2) [(.ref a1)])) rfl rfl (hb hby d11_1)
  obtain ⟨_, T6, L6, X6, hQ6, st6⟩ := ocallU X5 hx hZ zm8 zm6 hown (ww hw 74 rfl) (ww hw 75 rfl) (ww hw 76 rfl) (by decide) (ww hw 78 rfl) (ww hw 77 rfl) (ww hw 80 rfl) (ww hw 79 rfl) e5 F7 (rm9_14 l Z a0 hw [] a2 p8 h0 n0 Z0 F9) (st := [(.ref a2), (.ref a3)]) rfl 1 rfl (by decide) (pc := 5) (Ls := (lc16 a1 a2)) hml rfl (lenOf pd_3 rfl) d11_5 hby
  obtain ⟨rfl, N6q, e6⟩ := hQ6
  have N10 := Fr.app N0 N6q
  obtain ⟨cl19, Ar19, q19, S19, N19, H19, G19⟩ := id F14
  have hin20 : ¬ (p8 < 0 ∨ cl19.slots.size ≤ (p8).toNatClampNeg) := inb_of S19 ⟨hc15, hc16⟩
  have hat20 : cl19.slots[(p8).toNatClampNeg]? = some (.int 0) := atH H19 hin20 (getH_miss hc15 hc17 (getH_miss hc15 hc17 (getH_hit hc15 hc18)))
  refine own_go (U' := T6.setTop (mkF m 9 (lc16 a1 a2) [(.int 0)])) (fun t k => oaloadN X0 hx hby d11_0 rfl rfl (st5 _ (oaloadN X5 hx hby d11_4 rfl rfl (st6 _ (X6.iaload hx (j := p8) (v := (.int 0)) (own_at e6 Ar19.1) (State.isArrayOf_alike hZ.alike Ar19.2.1) Ar19.2.2 hin20 hat20 (g := (mkF m 8 (lc16 a1 a2) [(.int p8), (.ref a3)])) rfl rfl (hb hby d11_8) _ k))))) ?_
  obtain ⟨fs, hr, hrun, hended, hW, hsame⟩ := X6.leave (v := some (.int 0)) (fun h => by rw [Bd.returns] at h; cases h)
  refine own_out ⟨_, _, ?_, hrun, hended, _, _, rfl, ?_, ⟨_, rfl⟩, hW, hsame.mono (by decide) (by decide)⟩
  · exact retI X6 hx Bd.returns (hb hby d11_9) hr
  · show Q11_36 Z a1 a2 a3 p8 kc11 p12 p13 h0 n0 _ T6.heap _
    rw [e6]
    exact ⟨rfl, N10, rfl⟩
def Q8_37 (Z : State) (a1 a2 a3 : Addr) (p8 : Int32) (kc11 : ClassId) (p12 : Int32) (h0 : Heap) (n0 : Nat) (v : Option Value) (h : Heap) (L : List Loc) : Prop := v = none ∧ Fr n0 L ∧ Keep h0 h [a3] ∧ Arh Z h a3 kc11 .int (8 : Int32) [(p8, (.int 2)), (p8, (.int 1)), (p12, (.int 0))] [] (.int (0 : Int32))
set_option maxRecDepth 65536 in
set_option maxHeartbeats 40000000 in
theorem rm8_37 (l : Launch) (Z : State) (a0 : Array Value) (hw : ∀ d ∈ tables_1, d.before a0 Z = true) (ws : List Jvm.Cond) (a1 a2 a3 : Addr) (p8 : Int32) (kc11 : ClassId) (p12 : Int32) (h0 : Heap) (n0 : Nat) (Z0 : n0 ≤ h0.size) (F4 : Fld Z h0 a1 zs22 "counts" "[I" (.ref a3)) (F7 : Exa Z h0 a2 zs0) (F9 : Fld Z h0 a2 zs26 "ordinal" "I" (.int p8)) (F13 : Arh Z h0 a3 kc11 .int (8 : Int32) [(p8, (.int 1)), (p12, (.int 0))] [] (.int (0 : Int32))) (hc14 : ¬ (p8 < (0 : Int32))) (hc15 : p8 < (8 : Int32)) (g20 : n0 ≤ a3) :
    MetFree l zm7 (head1 (Jvm.Cond.code zm7 prog_30_method_2_code 3 none :: ws) ({ frames := 1, cells := 0, slots := 0, locals := 13 } : Room)) (fun a U => a = #[(.ref a1), (.ref a2), (.int 1)] ∧ Z.Warmed39 U.vm ∧ U.heap = h0) (fun _ _ _ _ _ => True) (fun _ U o U' => ∃ v L, o = .returned v ∧ Q8_37 Z a1 a2 a3 p8 kc11 p12 h0 n0 v U'.heap L ∧ FrameEnd U o U' L ({ frames := 1, cells := 0, slots := 0, locals := 13 } : Room).cells ({ frames := 1, cells := 0, slots := 0, locals := 13 } : Room).slots) := by
  refine MetFree.of_bodySF (plainFor_of_name pn_5) hisR ?_
  intro p e s m args below meth c s₁ Bd hml0 hP hK
  obtain ⟨rfl, hZ, hh⟩ := hP
  have hx := Bd.exec
  have hby := Bd.bytes
  have hml : c.maxLocals = 3 := hml0
  have hown : s.vm.findClass zs22 = some m.cls := findClass_of_methodNamed Bd.named
  have hnm := (name_of_methodNamed Bd.named Bd.method).1
  have X0 : Stand p l e ({ frames := 1, cells := 0, slots := 0, locals := 13 } : Room) s m #[(.ref a1), (.ref a2), (.int 1)] below meth c s₁ [] 0 0 := Stand.of_body Bd
  have e0 : s₁.heap = h0 := by rw [← hh, Bd.state]; rfl
  have N0 := Fr.nil n0
  refine own_pre (g' := mkF m 0 (lc13 a1 a2 1) []) (ef_3 m a1 a2 (1 : Int32)) ?_
  obtain ⟨T5, X5, e5, st5⟩ := getF X0 hx hZ hown (host := "") (Or.inl (ww hw 41 rfl)) Via.refl e0 F4 (g := (mkF m 1 (lc13 a1 a2 1) [(.ref a1)])) rfl rfl (hb hby d8_1)
  obtain ⟨_, T6, L6, X6, hQ6, st6⟩ := ocallU X5 hx hZ zm8 zm6 hown (ww hw 74 rfl) (ww hw 75 rfl) (ww hw 76 rfl) (by decide) (ww hw 78 rfl) (ww hw 77 rfl) (ww hw 80 rfl) (ww hw 79 rfl) e5 F7 (rm9_14 l Z a0 hw [] a2 p8 h0 n0 Z0 F9) (st := [(.ref a2), (.ref a3)]) rfl 1 rfl (by decide) (pc := 5) (Ls := (lc13 a1 a2 1)) hml rfl (lenOf pd_3 rfl) d8_5 hby
  obtain ⟨rfl, N6q, e6⟩ := hQ6
  have N10 := Fr.app N0 N6q
  obtain ⟨cl16, Ar16, q16, S16, N16, H16, G16⟩ := id F13
  have hin17 : ¬ (p8 < 0 ∨ cl16.slots.size ≤ (p8).toNatClampNeg) := inb_of S16 ⟨hc14, hc15⟩
  have hat17 : cl16.slots[(p8).toNatClampNeg]? = some (.int 1) := atH H16 hin17 (getH_hit hc14 (rfl : p8 = p8))
  refine own_go (U' := T6.setTop (mkF m 11 (lc13 a1 a2 1) [(.int 1), (.int 1), (.int p8), (.ref a3)])) (fun t k => oaloadN X0 hx hby d8_0 rfl rfl (st5 _ (oaloadN X5 hx hby d8_4 rfl rfl (st6 _ (odup2 X6 hx hby d8_8 rfl rfl (X6.iaload hx (j := p8) (v := (.int 1)) (own_at e6 Ar16.1) (State.isArrayOf_alike hZ.alike Ar16.2.1) Ar16.2.2 hin17 hat17 (g := (mkF m 9 (lc13 a1 a2 1) [(.int p8), (.ref a3), (.int p8), (.ref a3)])) rfl rfl (hb hby d8_9) _ (oiloadN X6 hx hby d8_10 rfl k))))))) ?_
  obtain ⟨cl18, Ar18, q18, S18, N18, H18, G18⟩ := id F13
  have hin19 : ¬ (p8 < 0 ∨ cl18.slots.size ≤ (p8).toNatClampNeg) := inb_of S18 ⟨hc14, hc15⟩
  obtain ⟨T19, h19, X19, e19, W19, st19⟩ := stI X6 hx hZ e6 Ar18 (j := p8) hin19 (g := (mkF m 20 (lc13 a1 a2 1) [(.int 2), (.int p8), (.ref a3)])) rfl rfl (hb hby d8_20)
  have N21 := Fr.snoc X19 N10 g20
  have f22 : Arh Z h19 a3 kc11 .int (8 : Int32) [(p8, (.int 2)), (p8, (.int 1)), (p12, (.int 0))] [] (.int (0 : Int32)) := Arh.push Ar18 q18 S18 N18 H18 G18 (by rfl) W19 hin19
  refine own_go (U' := T19.setTop (mkF m 21 (lc13 a1 a2 1) [])) (fun t k => oifN X6 hx hby d8_11 (by decide) (oiconst X6 hx hby d8_14 (ogoto (pc := 15) X6 hx hby d8_15 19 (by decide) (oiadd X6 hx hby d8_19 (st19 _ k))))) ?_
  obtain ⟨fs, hr, hrun, hended, hW, hsame⟩ := X19.leave (v := none) (fun _ => rfl)
  refine own_out ⟨_, _, ?_, hrun, hended, _, _, rfl, ?_, ⟨_, rfl⟩, hW, hsame.mono (by decide) (by decide)⟩
  · exact X19.returnOut hx Bd.returns (hb hby d8_21) hr
  · show Q8_37 Z a1 a2 a3 p8 kc11 p12 h0 n0 _ T19.heap _
    rw [e19]
    exact ⟨rfl, N21, ((Keep.refl h0 [a3]).wr W19 (Or.inl (List.mem_of_getElem? (i := 0) rfl))), f22⟩
def Q11_38 (Z : State) (a1 a2 a3 : Addr) (p8 : Int32) (kc11 : ClassId) (p12 : Int32) (h0 : Heap) (n0 : Nat) (v : Option Value) (h : Heap) (L : List Loc) : Prop := v = some (.int 2) ∧ Fr n0 L ∧ h = h0
set_option maxRecDepth 65536 in
set_option maxHeartbeats 40000000 in
theorem rm11_38 (l : Launch) (Z : State) (a0 : Array Value) (hw : ∀ d ∈ tables_1, d.before a0 Z = true) (ws : List Jvm.Cond) (a1 a2 a3 : Addr) (p8 : Int32) (kc11 : ClassId) (p12 : Int32) (h0 : Heap) (n0 : Nat) (Z0 : n0 ≤ h0.size) (F4 : Fld Z h0 a1 zs22 "counts" "[I" (.ref a3)) (F7 : Exa Z h0 a2 zs0) (F9 : Fld Z h0 a2 zs26 "ordinal" "I" (.int p8)) (F13 : Arh Z h0 a3 kc11 .int (8 : Int32) [(p8, (.int 2)), (p8, (.int 1)), (p12, (.int 0))] [] (.int (0 : Int32))) (hc14 : ¬ (p8 < (0 : Int32))) (hc15 : p8 < (8 : Int32)) :
    MetFree l zm10 (head1 (Jvm.Cond.code zm10 prog_30_method_5_code 2 (some .int) :: ws) ({ frames := 1, cells := 0, slots := 0, locals := 13 } : Room)) (fun a U => a = #[(.ref a1), (.ref a2)] ∧ Z.Warmed39 U.vm ∧ U.heap = h0) (fun _ _ _ _ _ => True) (fun _ U o U' => ∃ v L, o = .returned v ∧ Q11_38 Z a1 a2 a3 p8 kc11 p12 h0 n0 v U'.heap L ∧ FrameEnd U o U' L ({ frames := 1, cells := 0, slots := 0, locals := 13 } : Room).cells ({ frames := 1, cells := 0, slots := 0, locals := 13 } : Room).slots) := by
  refine MetFree.of_bodySF (plainFor_of_name pn_5) hisR ?_
  intro p e s m args below meth c s₁ Bd hml0 hP hK
  obtain ⟨rfl, hZ, hh⟩ := hP
  have hx := Bd.exec
  have hby := Bd.bytes
  have hml : c.maxLocals = 2 := hml0
  have hown : s.vm.findClass zs22 = some m.cls := findClass_of_methodNamed Bd.named
  have hnm := (name_of_methodNamed Bd.named Bd.method).1
  have X0 : Stand p l e ({ frames := 1, cells := 0, slots := 0, locals := 13 } : Room) s m #[(.ref a1), (.ref a2)] below meth c s₁ [] 0 0 := Stand.of_body Bd
  have e0 : s₁.heap = h0 := by rw [← hh, Bd.state]; rfl
  have N0 := Fr.nil n0
  refine own_pre (g' := mkF m 0 (lc16 a1 a2) []) (ef_4 m a1 a2) ?_
  obtain ⟨T5, X5, e5, st5⟩ := getF X0 hx hZ hown (host := "") (Or.inl (ww hw 41 rfl)) Via.refl e0 F4 (g := (mkF m 1 (lc16 a1 a2) [(.ref a1)])) rfl rfl (hb hby d11_1)
  obtain ⟨_, T6, L6, X6, hQ6, st6⟩ := ocallU X5 hx hZ zm8 zm6 hown (ww hw 74 rfl) (ww hw 75 rfl) (ww hw 76 rfl) (by decide) (ww hw 78 rfl) (ww hw 77 rfl) (ww hw 80 rfl) (ww hw 79 rfl) e5 F7 (rm9_14 l Z a0 hw [] a2 p8 h0 n0 Z0 F9) (st := [(.ref a2), (.ref a3)]) rfl 1 rfl (by decide) (pc := 5) (Ls := (lc16 a1 a2)) hml rfl (lenOf pd_3 rfl) d11_5 hby
  obtain ⟨rfl, N6q, e6⟩ := hQ6
  have N10 := Fr.app N0 N6q
  obtain ⟨cl16, Ar16, q16, S16, N16, H16, G16⟩ := id F13
  have hin17 : ¬ (p8 < 0 ∨ cl16.slots.size ≤ (p8).toNatClampNeg) := inb_of S16 ⟨hc14, hc15⟩
  have hat17 : cl16.slots[(p8).toNatClampNeg]? = some (.int 2) := atH H16 hin17 (getH_hit hc14 (rfl : p8 = p8))
  refine own_go (U' := T6.setTop (mkF m 9 (lc16 a1 a2) [(.int 2)])) (fun t k => oaloadN X0 hx hby d11_0 rfl rfl (st5 _ (oaloadN X5 hx hby d11_4 rfl rfl (st6 _ (X6.iaload hx (j := p8) (v := (.int 2)) (own_at e6 Ar16.1) (State.isArrayOf_alike hZ.alike Ar16.2.1) Ar16.2.2 hin17 hat17 (g := (mkF m 8 (lc16 a1 a2) [(.int p8), (.ref a3)])) rfl rfl (hb hby d11_8) _ k))))) ?_
  obtain ⟨fs, hr, hrun, hended, hW, hsame⟩ := X6.leave (v := some (.int 2)) (fun h => by rw [Bd.returns] at h; cases h)
  refine own_out ⟨_, _, ?_, hrun, hended, _, _, rfl, ?_, ⟨_, rfl⟩, hW, hsame.mono (by decide) (by decide)⟩
  · exact retI X6 hx Bd.returns (hb hby d11_9) hr
  · show Q11_38 Z a1 a2 a3 p8 kc11 p12 h0 n0 _ T6.heap _
    rw [e6]
    exact ⟨rfl, N10, rfl⟩
def Q11_39 (Z : State) (a1 a2 a3 : Addr) (p8 : Int32) (kc11 : ClassId) (p12 p13 : Int32) (h0 : Heap) (n0 : Nat) (v : Option Value) (h : Heap) (L : List Loc) : Prop := v = some (.int 2) ∧ Fr n0 L ∧ h = h0
set_option maxRecDepth 65536 in
set_option maxHeartbeats 40000000 in
theorem rm11_39 (l : Launch) (Z : State) (a0 : Array Value) (hw : ∀ d ∈ tables_1, d.before a0 Z = true) (ws : List Jvm.Cond) (a1 a2 a3 : Addr) (p8 : Int32) (kc11 : ClassId) (p12 p13 : Int32) (h0 : Heap) (n0 : Nat) (Z0 : n0 ≤ h0.size) (F4 : Fld Z h0 a1 zs22 "counts" "[I" (.ref a3)) (F7 : Exa Z h0 a2 zs0) (F9 : Fld Z h0 a2 zs26 "ordinal" "I" (.int p8)) (F14 : Arh Z h0 a3 kc11 .int (8 : Int32) [(p12, (.int 2)), (p12, (.int 1)), (p13, (.int 0))] [] (.int (0 : Int32))) (hc15 : ¬ (p8 < (0 : Int32))) (hc16 : p8 < (8 : Int32)) (hc17 : p8 = p12) :
    MetFree l zm10 (head1 (Jvm.Cond.code zm10 prog_30_method_5_code 2 (some .int) :: ws) ({ frames := 1, cells := 0, slots := 0, locals := 13 } : Room)) (fun a U => a = #[(.ref a1), (.ref a2)] ∧ Z.Warmed39 U.vm ∧ U.heap = h0) (fun _ _ _ _ _ => True) (fun _ U o U' => ∃ v L, o = .returned v ∧ Q11_39 Z a1 a2 a3 p8 kc11 p12 p13 h0 n0 v U'.heap L ∧ FrameEnd U o U' L ({ frames := 1, cells := 0, slots := 0, locals := 13 } : Room).cells ({ frames := 1, cells := 0, slots := 0, locals := 13 } : Room).slots) := by
  refine MetFree.of_bodySF (plainFor_of_name pn_5) hisR ?_
  intro p e s m args below meth c s₁ Bd hml0 hP hK
  obtain ⟨rfl, hZ, hh⟩ := hP
  have hx := Bd.exec
  have hby := Bd.bytes
  have hml : c.maxLocals = 2 := hml0
  have hown : s.vm.findClass zs22 = some m.cls := findClass_of_methodNamed Bd.named
  have hnm := (name_of_methodNamed Bd.named Bd.method).1
  have X0 : Stand p l e ({ frames := 1, cells := 0, slots := 0, locals := 13 } : Room) s m #[(.ref a1), (.ref a2)] below meth c s₁ [] 0 0 := Stand.of_body Bd
  have e0 : s₁.heap = h0 := by rw [← hh, Bd.state]; rfl
  have N0 := Fr.nil n0
  refine own_pre (g' := mkF m 0 (lc16 a1 a2) []) (ef_4 m a1 a2) ?_
  obtain ⟨T5, X5, e5, st5⟩ := getF X0 hx hZ hown (host := "") (Or.inl (ww hw 41 rfl)) Via.refl e0 F4 (g := (mkF m 1 (lc16 a1 a2) [(.ref a1)])) rfl rfl (hb hby d11_1)
  obtain ⟨_, T6, L6, X6, hQ6, st6⟩ := ocallU X5 hx hZ zm8 zm6 hown (ww hw 74 rfl) (ww hw 75 rfl) (ww hw 76 rfl) (by decide) (ww hw 78 rfl) (ww hw 77 rfl) (ww hw 80 rfl) (ww hw 79 rfl) e5 F7 (rm9_14 l Z a0 hw [] a2 p8 h0 n0 Z0 F9) (st := [(.ref a2), (.ref a3)]) rfl 1 rfl (by decide) (pc := 5) (Ls := (lc16 a1 a2)) hml rfl (lenOf pd_3 rfl) d11_5 hby
  obtain ⟨rfl, N6q, e6⟩ := hQ6
  have N10 := Fr.app N0 N6q
  obtain ⟨cl18, Ar18, q18, S18, N18, H18, G18⟩ := id F14
  have hin19 : ¬ (p8 < 0 ∨ cl18.slots.size ≤ (p8).toNatClampNeg) := inb_of S18 ⟨hc15, hc16⟩
  have hat19 : cl18.slots[(p8).toNatClampNeg]? = some (.int 2) := atH H18 hin19 (getH_hit hc15 hc17)
  refine own_go (U' := T6.setTop (mkF m 9 (lc16 a1 a2) [(.int 2)])) (fun t k => oaloadN X0 hx hby d11_0 rfl rfl (st5 _ (oaloadN X5 hx hby d11_4 rfl rfl (st6 _ (X6.iaload hx (j := p8) (v := (.int 2)) (own_at e6 Ar18.1) (State.isArrayOf_alike hZ.alike Ar18.2.1) Ar18.2.2 hin19 hat19 (g := (mkF m 8 (lc16 a1 a2) [(.int p8), (.ref a3)])) rfl rfl (hb hby d11_8) _ k))))) ?_
  obtain ⟨fs, hr, hrun, hended, hW, hsame⟩ := X6.leave (v := some (.int 2)) (fun h => by rw [Bd.returns] at h; cases h)
  refine own_out ⟨_, _, ?_, hrun, hended, _, _, rfl, ?_, ⟨_, rfl⟩, hW, hsame.mono (by decide) (by decide)⟩
  · exact retI X6 hx Bd.returns (hb hby d11_9) hr
  · show Q11_39 Z a1 a2 a3 p8 kc11 p12 p13 h0 n0 _ T6.heap _
    rw [e6]
    exact ⟨rfl, N10, rfl⟩
def Q11_40 (Z : State) (a1 a2 a3 : Addr) (p8 : Int32) (kc11 : ClassId) (p12 p13 : Int32) (h0 : Heap) (n0 : Nat) (v : Option Value) (h : Heap) (L : List Loc) : Prop := v = some (.int 0) ∧ Fr n0 L ∧ h = h0
set_option maxRecDepth 65536 in
set_option maxHeartbeats 40000000 in
theorem rm11_40 (l : Launch) (Z : State) (a0 : Array Value) (hw : ∀ d ∈ tables_1, d.before a0 Z = true) (ws : List Jvm.Cond) (a1 a2 a3 : Addr) (p8 : Int32) (kc11 : ClassId) (p12 p13 : Int32) (h0 : Heap) (n0 : Nat) (Z0 : n0 ≤ h0.size) (F4 : Fld Z h0 a1 zs22 "counts" "[I" (.ref a3)) (F7 : Exa Z h0 a2 zs0) (F9 : Fld Z h0 a2 zs26 "ordinal" "I" (.int p8)) (F14 : Arh Z h0 a3 kc11 .int (8 : Int32) [(p12, (.int 2)), (p12, (.int 1)), (p13, (.int 0))] [] (.int (0 : Int32))) (hc15 : ¬ (p8 < (0 : Int32))) (hc16 : p8 < (8 : Int32)) (hc17 : ¬ (p8 = p12)) (hc18 : ¬ (p8 = p13)) :
    MetFree l zm10 (head1 (Jvm.Cond.code zm10 prog_30_method_5_code 2 (some .int) :: ws) ({ frames := 1, cells := 0, slots := 0, locals := 13 } : Room)) (fun a U => a = #[(.ref a1), (.ref a2)] ∧ Z.Warmed39 U.vm ∧ U.heap = h0) (fun _ _ _ _ _ => True) (fun _ U o U' => ∃ v L, o = .returned v ∧ Q11_40 Z a1 a2 a3 p8 kc11 p12 p13 h0 n0 v U'.heap L ∧ FrameEnd U o U' L ({ frames := 1, cells := 0, slots := 0, locals := 13 } : Room).cells ({ frames := 1, cells := 0, slots := 0, locals := 13 } : Room).slots) := by
  refine MetFree.of_bodySF (plainFor_of_name pn_5) hisR ?_
  intro p e s m args below meth c s₁ Bd hml0 hP hK
  obtain ⟨rfl, hZ, hh⟩ := hP
  have hx := Bd.exec
  have hby := Bd.bytes
  have hml : c.maxLocals = 2 := hml0
  have hown : s.vm.findClass zs22 = some m.cls := findClass_of_methodNamed Bd.named
  have hnm := (name_of_methodNamed Bd.named Bd.method).1
  have X0 : Stand p l e ({ frames := 1, cells := 0, slots := 0, locals := 13 } : Room) s m #[(.ref a1), (.ref a2)] below meth c s₁ [] 0 0 := Stand.of_body Bd
  have e0 : s₁.heap = h0 := by rw [← hh, Bd.state]; rfl
  have N0 := Fr.nil n0
  refine own_pre (g' := mkF m 0 (lc16 a1 a2) []) (ef_4 m a1 a2) ?_
  obtain ⟨T5, X5, e5, st5⟩ := getF X0 hx hZ hown (host := "") (Or.inl (ww hw 41 rfl)) Via.refl e0 F4 (g := (mkF m 1 (lc16 a1 a2) [(.ref a1)])) rfl rfl (hb hby d11_1)
  obtain ⟨_, T6, L6, X6, hQ6, st6⟩ := ocallU X5 hx hZ zm8 zm6 hown (ww hw 74 rfl) (ww hw 75 rfl) (ww hw 76 rfl) (by decide) (ww hw 78 rfl) (ww hw 77 rfl) (ww hw 80 rfl) (ww hw 79 rfl) e5 F7 (rm9_14 l Z a0 hw [] a2 p8 h0 n0 Z0 F9) (st := [(.ref a2), (.ref a3)]) rfl 1 rfl (by decide) (pc := 5) (Ls := (lc16 a1 a2)) hml rfl (lenOf pd_3 rfl) d11_5 hby
  obtain ⟨rfl, N6q, e6⟩ := hQ6
  have N10 := Fr.app N0 N6q
  obtain ⟨cl19, Ar19, q19, S19, N19, H19, G19⟩ := id F14
  have hin20 : ¬ (p8 < 0 ∨ cl19.slots.size ≤ (p8).toNatClampNeg) := inb_of S19 ⟨hc15, hc16⟩
  have hat20 : cl19.slots[(p8).toNatClampNeg]? = some (.int 0) := atH H19 hin20 (getH_miss hc15 hc17 (getH_miss hc15 hc17 (getH_miss hc15 hc18 rfl)))
  refine own_go (U' := T6.setTop (mkF m 9 (lc16 a1 a2) [(.int 0)])) (fun t k => oaloadN X0 hx hby d11_0 rfl rfl (st5 _ (oaloadN X5 hx hby d11_4 rfl rfl (st6 _ (X6.iaload hx (j := p8) (v := (.int 0)) (own_at e6 Ar19.1) (State.isArrayOf_alike hZ.alike Ar19.2.1) Ar19.2.2 hin20 hat20 (g := (mkF m 8 (lc16 a1 a2) [(.int p8), (.ref a3)])) rfl rfl (hb hby d11_8) _ k))))) ?_
  obtain ⟨fs, hr, hrun, hended, hW, hsame⟩ := X6.leave (v := some (.int 0)) (fun h => by rw [Bd.returns] at h; cases h)
  refine own_out ⟨_, _, ?_, hrun, hended, _, _, rfl, ?_, ⟨_, rfl⟩, hW, hsame.mono (by decide) (by decide)⟩
  · exact retI X6 hx Bd.returns (hb hby d11_9) hr
  · show Q11_40 Z a1 a2 a3 p8 kc11 p12 p13 h0 n0 _ T6.heap _
    rw [e6]
    exact ⟨rfl, N10, rfl⟩
def Q11_41 (Z : State) (a1 a2 a3 : Addr) (p8 : Int32) (kc11 : ClassId) (p12 p13 : Int32) (h0 : Heap) (n0 : Nat) (v : Option Value) (h : Heap) (L : List Loc) : Prop := v = some (.int 0) ∧ Fr n0 L ∧ h = h0
set_option maxRecDepth 65536 in
set_option maxHeartbeats 40000000 in
theorem rm11_41 (l : Launch) (Z : State) (a0 : Array Value) (hw : ∀ d ∈ tables_1, d.before a0 Z = true) (ws : List Jvm.Cond) (a1 a2 a3 : Addr) (p8 : Int32) (kc11 : ClassId) (p12 p13 : Int32) (h0 : Heap) (n0 : Nat) (Z0 : n0 ≤ h0.size) (F4 : Fld Z h0 a1 zs22 "counts" "[I" (.ref a3)) (F7 : Exa Z h0 a2 zs0) (F9 : Fld Z h0 a2 zs26 "ordinal" "I" (.int p8)) (F14 : Arh Z h0 a3 kc11 .int (8 : Int32) [(p12, (.int 2)), (p12, (.int 1)), (p13, (.int 0))] [] (.int (0 : Int32))) (hc15 : ¬ (p8 < (0 : Int32))) (hc16 : p8 < (8 : Int32)) (hc17 : ¬ (p8 = p12)) (hc18 : p8 = p13) :
    MetFree l zm10 (head1 (Jvm.Cond.code zm10 prog_30_method_5_code 2 (some .int) :: ws) ({ frames := 1, cells := 0, slots := 0, locals := 13 } : Room)) (fun a U => a = #[(.ref a1), (.ref a2)] ∧ Z.Warmed39 U.vm ∧ U.heap = h0) (fun _ _ _ _ _ => True) (fun _ U o U' => ∃ v L, o = .returned v ∧ Q11_41 Z a1 a2 a3 p8 kc11 p12 p13 h0 n0 v U'.heap L ∧ FrameEnd U o U' L ({ frames := 1, cells := 0, slots := 0, locals := 13 } : Room).cells ({ frames := 1, cells := 0, slots := 0, locals := 13 } : Room).slots) := by
  refine MetFree.of_bodySF (plainFor_of_name pn_5) hisR ?_
  intro p e s m args below meth c s₁ Bd hml0 hP hK
  obtain ⟨rfl, hZ, hh⟩ := hP
  have hx := Bd.exec
  have hby := Bd.bytes
  have hml : c.maxLocals = 2 := hml0
  have hown : s.vm.findClass zs22 = some m.cls := findClass_of_methodNamed Bd.named
  have hnm := (name_of_methodNamed Bd.named Bd.method).1
  have X0 : Stand p l e ({ frames := 1, cells := 0, slots := 0, locals := 13 } : Room) s m #[(.ref a1), (.ref a2)] below meth c s₁ [] 0 0 := Stand.of_body Bd
  have e0 : s₁.heap = h0 := by rw [← hh, Bd.state]; rfl
  have N0 := Fr.nil n0
  refine own_pre (g' := mkF m 0 (lc16 a1 a2) []) (ef_4 m a1 a2) ?_
  obtain ⟨T5, X5, e5, st5⟩ := getF X0 hx hZ hown (host := "") (Or.inl (ww hw 41 rfl)) Via.refl e0 F4 (g := (mkF m 1 (lc16 a1 a2) [(.ref a1)])) rfl rfl (hb hby d11_1)
  obtain ⟨_, T6, L6, X6, hQ6, st6⟩ := ocallU X5 hx hZ zm8 zm6 hown (ww hw 74 rfl) (ww hw 75 rfl) (ww hw 76 rfl) (by decide) (ww hw 78 rfl) (ww hw 77 rfl) (ww hw 80 rfl) (ww hw 79 rfl) e5 F7 (rm9_14 l Z a0 hw [] a2 p8 h0 n0 Z0 F9) (st := [(.ref a2), (.ref a3)]) rfl 1 rfl (by decide) (pc := 5) (Ls := (lc16 a1 a2)) hml rfl (lenOf pd_3 rfl) d11_5 hby
  obtain ⟨rfl, N6q, e6⟩ := hQ6
  have N10 := Fr.app N0 N6q
  obtain ⟨cl19, Ar19, q19, S19, N19, H19, G19⟩ := id F14
  have hin20 : ¬ (p8 < 0 ∨ cl19.slots.size ≤ (p8).toNatClampNeg) := inb_of S19 ⟨hc15, hc16⟩
  have hat20 : cl19.slots[(p8).toNatClampNeg]? = some (.int 0) := atH H19 hin20 (getH_miss hc15 hc17 (getH_miss hc15 hc17 (getH_hit hc15 hc18)))
  refine own_go (U' := T6.setTop (mkF m 9 (lc16 a1 a2) [(.int 0)])) (fun t k => oaloadN X0 hx hby d11_0 rfl rfl (st5 _ (oaloadN X5 hx hby d11_4 rfl rfl (st6 _ (X6.iaload hx (j := p8) (v := (.int 0)) (own_at e6 Ar19.1) (State.isArrayOf_alike hZ.alike Ar19.2.1) Ar19.2.2 hin20 hat20 (g := (mkF m 8 (lc16 a1 a2) [(.int p8), (.ref a3)])) rfl rfl (hb hby d11_8) _ k))))) ?_
  obtain ⟨fs, hr, hrun, hended, hW, hsame⟩ := X6.leave (v := some (.int 0)) (fun h => by rw [Bd.returns] at h; cases h)
  refine own_out ⟨_, _, ?_, hrun, hended, _, _, rfl, ?_, ⟨_, rfl⟩, hW, hsame.mono (by decide) (by decide)⟩
  · exact retI X6 hx Bd.returns (hb hby d11_9) hr
  · show Q11_41 Z a1 a2 a3 p8 kc11 p12 p13 h0 n0 _ T6.heap _
    rw [e6]
    exact ⟨rfl, N10, rfl⟩
def Q8_42 (Z : State) (a1 a2 a3 : Addr) (p8 : Int32) (kc11 : ClassId) (h0 : Heap) (n0 : Nat) (v : Option Value) (h : Heap) (L : List Loc) : Prop := v = none ∧ Fr n0 L ∧ Keep h0 h [a3] ∧ Arh Z h a3 kc11 .int (8 : Int32) [(p8, (.int 1))] [] (.int (0 : Int32))
set_option maxRecDepth 65536 in
set_option maxHeartbeats 40000000 in
theorem rm8_42 (l : Launch) (Z : State) (a0 : Array Value) (hw : ∀ d ∈ tables_1, d.before a0 Z = true) (ws : List Jvm.Cond) (a1 a2 a3 : Addr) (p8 : Int32) (kc11 : ClassId) (h0 : Heap) (n0 : Nat) (Z0 : n0 ≤ h0.size) (F4 : Fld Z h0 a1 zs22 "counts" "[I" (.ref a3)) (F7 : Exa Z h0 a2 zs0) (F9 : Fld Z h0 a2 zs26 "ordinal" "I" (.int p8)) (F12 : Arv Z h0 a3 kc11 .int (8 : Int32) [] (.int (0 : Int32))) (hc13 : ¬ (p8 < (0 : Int32))) (hc14 : p8 < (8 : Int32)) (g19 : n0 ≤ a3) :
    MetFree l zm7 (head1 (Jvm.Cond.code zm7 prog_30_method_2_code 3 none :: ws) ({ frames := 1, cells := 0, slots := 0, locals := 13 } : Room)) (fun a U => a = #[(.ref a1), (.ref a2), (.int 1)] ∧ Z.Warmed39 U.vm ∧ U.heap = h0) (fun _ _ _ _ _ => True) (fun _ U o U' => ∃ v L, o = .returned v ∧ Q8_42 Z a1 a2 a3 p8 kc11 h0 n0 v U'.heap L ∧ FrameEnd U o U' L ({ frames := 1, cells := 0, slots := 0, locals := 13 } : Room).cells ({ frames := 1, cells := 0, slots := 0, locals := 13 } : Room).slots) := by
  refine MetFree.of_bodySF (plainFor_of_name pn_5) hisR ?_
  intro p e s m args below meth c s₁ Bd hml0 hP hK
  obtain ⟨rfl, hZ, hh⟩ := hP
  have hx := Bd.exec
  have hby := Bd.bytes
  have hml : c.maxLocals = 3 := hml0
  have hown : s.vm.findClass zs22 = some m.cls := findClass_of_methodNamed Bd.named
  have hnm := (name_of_methodNamed Bd.named Bd.method).1
  have X0 : Stand p l e ({ frames := 1, cells := 0, slots := 0, locals := 13 } : Room) s m #[(.ref a1), (.ref a2), (.int 1)] below meth c s₁ [] 0 0 := Stand.of_body Bd
  have e0 : s₁.heap = h0 := by rw [← hh, Bd.state]; rfl
  have N0 := Fr.nil n0
  refine own_pre (g' := mkF m 0 (lc13 a1 a2 1) []) (ef_3 m a1 a2 (1 : Int32)) ?_
  obtain ⟨T5, X5, e5, st5⟩ := getF X0 hx hZ hown (host := "") (Or.inl (ww hw 41 rfl)) Via.refl e0 F4 (g := (mkF m 1 (lc13 a1 a2 1) [(.ref a1)])) rfl rfl (hb hby d8_1)
  obtain ⟨_, T6, L6, X6, hQ6, st6⟩ := ocallU X5 hx hZ zm8 zm6 hown (ww hw 74 rfl) (ww hw 75 rfl) (ww hw 76 rfl) (by decide) (ww hw 78 rfl) (ww hw 77 rfl) (ww hw 80 rfl) (ww hw 79 rfl) e5 F7 (rm9_14 l Z a0 hw [] a2 p8 h0 n0 Z0 F9) (st := [(.ref a2), (.ref a3)]) rfl 1 rfl (by decide) (pc := 5) (Ls := (lc13 a1 a2 1)) hml rfl (lenOf pd_3 rfl) d8_5 hby
  obtain ⟨rfl, N6q, e6⟩ := hQ6
  have N10 := Fr.app N0 N6q
  obtain ⟨cl15, Ar15, q15, S15, N15, H15, G15⟩ := id (Arv.arh F12)
  have hin16 : ¬ (p8 < 0 ∨ cl15.slots.size ≤ (p8).toNatClampNeg) := inb_of S15 ⟨hc13, hc14⟩
  have hat16 : cl15.slots[(p8).toNatClampNeg]? = some (.int 0) := atH H15 hin16 rfl
  refine own_go (U' := T6.setTop (mkF m 11 (lc13 a1 a2 1) [(.int 1), (.int 0), (.int p8), (.ref a3)])) (fun t k => oaloadN X0 hx hby d8_0 rfl rfl (st5 _ (oaloadN X5 hx hby d8_4 rfl rfl (st6 _ (odup2 X6 hx hby d8_8 rfl rfl (X6.iaload hx (j := p8) (v := (.int 0)) (own_at e6 Ar15.1) (State.isArrayOf_alike hZ.alike Ar15.2.1) Ar15.2.2 hin16 hat16 (g := (mkF m 9 (lc13 a1 a2 1) [(.int p8), (.ref a3), (.int p8), (.ref a3)])) rfl rfl (hb hby d8_9) _ (oiloadN X6 hx hby d8_10 rfl k))))))) ?_
  obtain ⟨cl17, Ar17, q17, S17, N17, H17, G17⟩ := id (Arv.arh F12)
  have hin18 : ¬ (p8 < 0 ∨ cl17.slots.size ≤ (p8).toNatClampNeg) := inb_of S17 ⟨hc13, hc14⟩
  obtain ⟨T18, h18, X18, e18, W18, st18⟩ := stI X6 hx hZ e6 Ar17 (j := p8) hin18 (g := (mkF m 20 (lc13 a1 a2 1) [(.int 1), (.int p8), (.ref a3)])) rfl rfl (hb hby d8_20)
  have N20 := Fr.snoc X18 N10 g19
  have f21 : Arh Z h18 a3 kc11 .int (8 : Int32) [(p8, (.int 1))] [] (.int (0 : Int32)) := Arh.push Ar17 q17 S17 N17 H17 G17 (by rfl) W18 hin18
  refine own_go (U' := T18.setTop (mkF m 21 (lc13 a1 a2 1) [])) (fun t k => oifN X6 hx hby d8_11 (by decide) (oiconst X6 hx hby d8_14 (ogoto (pc := 15) X6 hx hby d8_15 19 (by decide) (oiadd X6 hx hby d8_19 (st18 _ k))))) ?_
  obtain ⟨fs, hr, hrun, hended, hW, hsame⟩ := X18.leave (v := none) (fun _ => rfl)
  refine own_out ⟨_, _, ?_, hrun, hended, _, _, rfl, ?_, ⟨_, rfl⟩, hW, hsame.mono (by decide) (by decide)⟩
  · exact X18.returnOut hx Bd.returns (hb hby d8_21) hr
  · show Q8_42 Z a1 a2 a3 p8 kc11 h0 n0 _ T18.heap _
    rw [e18]
    exact ⟨rfl, N20, ((Keep.refl h0 [a3]).wr W18 (Or.inl (List.mem_of_getElem? (i := 0) rfl))), f21⟩
def Q8_43 (Z : State) (a1 a2 a3 : Addr) (p8 : Int32) (kc11 : ClassId) (p12 : Int32) (h0 : Heap) (n0 : Nat) (v : Option Value) (h : Heap) (L : List Loc) : Prop := v = none ∧ Fr n0 L ∧ Keep h0 h [a3] ∧ Arh Z h a3 kc11 .int (8 : Int32) [(p8, (.int 1)), (p12, (.int 1))] [] (.int (0 : Int32))
set_option maxRecDepth 65536 in
set_option maxHeartbeats 40000000 in
theorem rm8_43 (l : Launch) (Z : State) (a0 : Array Value) (hw : ∀ d ∈ tables_1, d.before a0 Z = true) (ws : List Jvm.Cond) (a1 a2 a3 : Addr) (p8 : Int32) (kc11 : ClassId) (p12 : Int32) (h0 : Heap) (n0 : Nat) (Z0 : n0 ≤ h0.size) (F4 : Fld Z h0 a1 zs22 "counts" "[I" (.ref a3)) (F7 : Exa Z h0 a2 zs0) (F9 : Fld Z h0 a2 zs26 "ordinal" "I" (.int p8)) (F13 : Arh Z h0 a3 kc11 .int (8 : Int32) [(p12, (.int 1))] [] (.int (0 : Int32))) (hc14 : ¬ (p8 < (0 : Int32))) (hc15 : p8 < (8 : Int32)) (hc16 : p8 = p12) (g21 : n0 ≤ a3) :
    MetFree l zm7 (head1 (Jvm.Cond.code zm7 prog_30_method_2_code 3 none :: ws) ({ frames := 1, cells := 0, slots := 0, locals := 13 } : Room)) (fun a U => a = #[(.ref a1), (.ref a2), (.int 0)] ∧ Z.Warmed39 U.vm ∧ U.heap = h0) (fun _ _ _ _ _ => True) (fun _ U o U' => ∃ v L, o = .returned v ∧ Q8_43 Z a1 a2 a3 p8 kc11 p12 h0 n0 v U'.heap L ∧ FrameEnd U o U' L ({ frames := 1, cells := 0, slots := 0, locals := 13 } : Room).cells ({ frames := 1, cells := 0, slots := 0, locals := 13 } : Room).slots) := by
  refine MetFree.of_bodySF (plainFor_of_name pn_5) hisR ?_
  intro p e s m args below meth c s₁ Bd hml0 hP hK
  obtain ⟨rfl, hZ, hh⟩ := hP
  have hx := Bd.exec
  have hby := Bd.bytes
  have hml : c.maxLocals = 3 := hml0
  have hown : s.vm.findClass zs22 = some m.cls := findClass_of_methodNamed Bd.named
  have hnm := (name_of_methodNamed Bd.named Bd.method).1
  have X0 : Stand p l e ({ frames := 1, cells := 0, slots := 0, locals := 13 } : Room) s m #[(.ref a1), (.ref a2), (.int 0)] below meth c s₁ [] 0 0 := Stand.of_body Bd
  have e0 : s₁.heap = h0 := by rw [← hh, Bd.state]; rfl
  have N0 := Fr.nil n0
  refine own_pre (g' := mkF m 0 (lc13 a1 a2 0) []) (ef_3 m a1 a2 (0 : Int32)) ?_
  obtain ⟨T5, X5, e5, st5⟩ := getF X0 hx hZ hown (host := "") (Or.inl (ww hw 41 rfl)) Via.refl e0 F4 (g := (mkF m 1 (lc13 a1 a2 0) [(.ref a1)])) rfl rfl (hb hby d8_1)
  obtain ⟨_, T6, L6, X6, hQ6, st6⟩ := ocallU X5 hx hZ zm8 zm6 hown (ww hw 74 rfl) (ww hw 75 rfl) (ww hw 76 rfl) (by decide) (ww hw 78 rfl) (ww hw 77 rfl) (ww hw 80 rfl) (ww hw 79 rfl) e5 F7 (rm9_14 l Z a0 hw [] a2 p8 h0 n0 Z0 F9) (st := [(.ref a2), (.ref a3)]) rfl 1 rfl (by decide) (pc := 5) (Ls := (lc13 a1 a2 0)) hml rfl (lenOf pd_3 rfl) d8_5 hby
  obtain ⟨rfl, N6q, e6⟩ := hQ6
  have N10 := Fr.app N0 N6q
  obtain ⟨cl17, Ar17, q17, S17, N17, H17, G17⟩ := id F13
  have hin18 : ¬ (p8 < 0 ∨ cl17.slots.size ≤ (p8).toNatClampNeg) := inb_of S17 ⟨hc14, hc15⟩
  have hat18 : cl17.slots[(p8).toNatClampNeg]? = some (.int 1) := atH H17 hin18 (getH_hit hc14 hc16)
  refine own_go (U' := T6.setTop (mkF m 11 (lc13 a1 a2 0) [(.int 0), (.int 1), (.int p8), (.ref a3)])) (fun t k => oaloadN X0 hx hby d8_0 rfl rfl (st5 _ (oaloadN X5 hx hby d8_4 rfl rfl (st6 _ (odup2 X6 hx hby d8_8 rfl rfl (X6.iaload hx (j := p8) (v := (.int 1)) (own_at e6 Ar17.1) (State.isArrayOf_alike hZ.alike Ar17.2.1) Ar17.2.2 hin18 hat18 (g := (mkF m 9 (lc13 a1 a2 0) [(.int p8), (.ref a3), (.int p8), (.ref a3)])) rfl rfl (hb hby d8_9) _ (oiloadN X6 hx hby d8_10 rfl k))))))) ?_
  obtain ⟨cl19, Ar19, q19, S19, N19, H19, G19⟩ := id F13
  have hin20 : ¬ (p8 < 0 ∨ cl19.slots.size ≤ (p8).toNatClampNeg) := inb_of S19 ⟨hc14, hc15⟩
  obtain ⟨T20, h20, X20, e20, W20, st20⟩ := stI X6 hx hZ e6 Ar19 (j := p8) hin20 (g := (mkF m 20 (lc13 a1 a2 0) [(.int 1), (.int p8), (.ref a3)])) rfl rfl (hb hby d8_20)
  have N22 := Fr.snoc X20 N10 g21
  have f23 : Arh Z h20 a3 kc11 .int (8 : Int32) [(p8, (.int 1)), (p12, (.int 1))] [] (.int (0 : Int32)) := Arh.push Ar19 q19 S19 N19 H19 G19 (by rfl) W20 hin20
  refine own_go (U' := T20.setTop (mkF m 21 (lc13 a1 a2 0) [])) (fun t k => oifY (pc := 11) X6 hx hby d8_11 18 (by decide) (by decide) (oiconst X6 hx hby d8_18 (oiadd X6 hx hby d8_19 (st20 _ k)))) ?_
  obtain ⟨fs, hr, hrun, hended, hW, hsame⟩ := X20.leave (v := none) (fun _ => rfl)
  refine own_out ⟨_, _, ?_, hrun, hended, _, _, rfl, ?_, ⟨_, rfl⟩, hW, hsame.mono (by decide) (by decide)⟩
  · exact X20.returnOut hx Bd.returns (hb hby d8_21) hr
  · show Q8_43 Z a1 a2 a3 p8 kc11 p12 h0 n0 _ T20.heap _
    rw [e20]
    exact ⟨rfl, N22, ((Keep.refl h0 [a3]).wr W20 (Or.inl (List.mem_of_getElem? (i := 0) rfl))), f23⟩
def Q8_44 (Z : State) (a1 a2 a3 : Addr) (p8 : Int32) (kc11 : ClassId) (p12 : Int32) (h0 : Heap) (n0 : Nat) (v : Option Value) (h : Heap) (L : List Loc) : Prop := v = none ∧ Fr n0 L ∧ Keep h0 h [a3] ∧ Arh Z h a3 kc11 .int (8 : Int32) [(p8, (.int 1)), (p8, (.int 1)), (p12, (.int 1))] [] (.int (0 : Int32))
set_option maxRecDepth 65536 in
set_option maxHeartbeats 40000000 in
theorem rm8_44 (l : Launch) (Z : State) (a0 : Array Value) (hw : ∀ d ∈ tables_1, d.before a0 Z = true) (ws : List Jvm.Cond) (a1 a2 a3 : Addr) (p8 : Int32) (kc11 : ClassId) (p12 : Int32) (h0 : Heap) (n0 : Nat) (Z0 : n0 ≤ h0.size) (F4 : Fld Z h0 a1 zs22 "counts" "[I" (.ref a3)) (F7 : Exa Z h0 a2 zs0) (F9 : Fld Z h0 a2 zs26 "ordinal" "I" (.int p8)) (F13 : Arh Z h0 a3 kc11 .int (8 : Int32) [(p8, (.int 1)), (p12, (.int 1))] [] (.int (0 : Int32))) (hc14 : ¬ (p8 < (0 : Int32))) (hc15 : p8 < (8 : Int32)) (g20 : n0 ≤ a3) :
    MetFree l zm7 (head1 (Jvm.Cond.code zm7 prog_30_method_2_code 3 none :: ws) ({ frames := 1, cells := 0, slots := 0, locals := 13 } : Room)) (fun a U => a = #[(.ref a1), (.ref a2), (.int 0)] ∧ Z.Warmed39 U.vm ∧ U.heap = h0) (fun _ _ _ _ _ => True) (fun _ U o U' => ∃ v L, o = .returned v ∧ Q8_44 Z a1 a2 a3 p8 kc11 p12 h0 n0 v U'.heap L ∧ FrameEnd U o U' L ({ frames := 1, cells := 0, slots := 0, locals := 13 } : Room).cells ({ frames := 1, cells := 0, slots := 0, locals := 13 } : Room).slots) := by
  refine MetFree.of_bodySF (plainFor_of_name pn_5) hisR ?_
  intro p e s m args below meth c s₁ Bd hml0 hP hK
  obtain ⟨rfl, hZ, hh⟩ := hP
  have hx := Bd.exec
  have hby := Bd.bytes
  have hml : c.maxLocals = 3 := hml0
  have hown : s.vm.findClass zs22 = some m.cls := findClass_of_methodNamed Bd.named
  have hnm := (name_of_methodNamed Bd.named Bd.method).1
  have X0 : Stand p l e ({ frames := 1, cells := 0, slots := 0, locals := 13 } : Room) s m #[(.ref a1), (.ref a2), (.int 0)] below meth c s₁ [] 0 0 := Stand.of_body Bd
  have e0 : s₁.heap = h0 := by rw [← hh, Bd.state]; rfl
  have N0 := Fr.nil n0
  refine own_pre (g' := mkF m 0 (lc13 a1 a2 0) []) (ef_3 m a1 a2 (0 : Int32)) ?_
  obtain ⟨T5, X5, e5, st5⟩ := getF X0 hx hZ hown (host := "") (Or.inl (ww hw 41 rfl)) Via.refl e0 F4 (g := (mkF m 1 (lc13 a1 a2 0) [(.ref a1)])) rfl rfl (hb hby d8_1)
  obtain ⟨_, T6, L6, X6, hQ6, st6⟩ := ocallU X5 hx hZ zm8 zm6 hown (ww hw 74 rfl) (ww hw 75 rfl) (ww hw 76 rfl) (by decide) (ww hw 78 rfl) (ww hw 77 rfl) (ww hw 80 rfl) (ww hw 79 rfl) e5 F7 (rm9_14 l Z a0 hw [] a2 p8 h0 n0 Z0 F9) (st := [(.ref a2), (.ref a3)]) rfl 1 rfl (by decide) (pc := 5) (Ls := (lc13 a1 a2 0)) hml rfl (lenOf pd_3 rfl) d8_5 hby
  obtain ⟨rfl, N6q, e6⟩ := hQ6
  have N10 := Fr.app N0 N6q
  obtain ⟨cl16, Ar16, q16, S16, N16, H16, G16⟩ := id F13
  have hin17 : ¬ (p8 < 0 ∨ cl16.slots.size ≤ (p8).toNatClampNeg) := inb_of S16 ⟨hc14, hc15⟩
  have hat17 : cl16.slots[(p8).toNatClampNeg]? = some (.int 1) := atH H16 hin17 (getH_hit hc14 (rfl : p8 = p8))
  refine own_go (U' := T6.setTop (mkF m 11 (lc13 a1 a2 0) [(.int 0), (.int 1), (.int p8), (.ref a3)])) (fun t k => oaloadN X0 hx hby d8_0 rfl rfl (st5 _ (oaloadN X5 hx hby d8_4 rfl rfl (st6 _ (odup2 X6 hx hby d8_8 rfl rfl (X6.iaload hx (j := p8) (v := (.int 1)) (own_at e6 Ar16.1) (State.isArrayOf_alike hZ.alike Ar16.2.1) Ar16.2.2 hin17 hat17 (g := (mkF m 9 (lc13 a1 a2 0) [(.int p8), (.ref a3), (.int p8), (.ref a3)])) rfl rfl (hb hby d8_9) _ (oiloadN X6 hx hby d8_10 rfl k))))))) ?_
  obtain ⟨cl18, Ar18, q18, S18, N18, H18, G18⟩ := id F13
  have hin19 : ¬ (p8 < 0 ∨ cl18.slots.size ≤ (p8).toNatClampNeg) := inb_of S18 ⟨hc14, hc15⟩
  obtain ⟨T19, h19, X19, e19, W19, st19⟩ := stI X6 hx hZ e6 Ar18 (j := p8) hin19 (g := (mkF m 20 (lc13 a1 a2 0) [(.int 1), (.int p8), (.ref a3)])) rfl rfl (hb hby d8_20)
  have N21 := Fr.snoc X19 N10 g20
  have f22 : Arh Z h19 a3 kc11 .int (8 : Int32) [(p8, (.int 1)), (p8, (.int 1)), (p12, (.int 1))] [] (.int (0 : Int32)) := Arh.push Ar18 q18 S18 N18 H18 G18 (by rfl) W19 hin19
  refine own_go (U' := T19.setTop (mkF m 21 (lc13 a1 a2 0) [])) (fun t k => oifY (pc := 11) X6 hx hby d8_11 18 (by decide) (by decide) (oiconst X6 hx hby d8_18 (oiadd X6 hx hby d8_19 (st19 _ k)))) ?_
  obtain ⟨fs, hr, hrun, hended, hW, hsame⟩ := X19.leave (v := none) (fun _ => rfl)
  refine own_out ⟨_, _, ?_, hrun, hended, _, _, rfl, ?_, ⟨_, rfl⟩, hW, hsame.mono (by decide) (by decide)⟩
  · exact X19.returnOut hx Bd.returns (hb hby d8_21) hr
  · show Q8_44 Z a1 a2 a3 p8 kc11 p12 h0 n0 _ T19.heap _
    rw [e19]
    exact ⟨rfl, N21, ((Keep.refl h0 [a3]).wr W19 (Or.inl (List.mem_of_getElem? (i := 0) rfl))), f22⟩
def Q11_45 (Z : State) (a1 a2 a3 : Addr) (p8 : Int32) (kc11 : ClassId) (p12 : Int32) (h0 : Heap) (n0 : Nat) (v : Option Value) (h : Heap) (L : List Loc) : Prop := v = some (.int 1) ∧ Fr n0 L ∧ h = h0
set_option maxRecDepth 65536 in
set_option maxHeartbeats 40000000 in
theorem rm11_45 (l : Launch) (Z : State) (a0 : Array Value) (hw : ∀ d ∈ tables_1, d.before a0 Z = true) (ws : List Jvm.Cond) (a1 a2 a3 : Addr) (p8 : Int32) (kc11 : ClassId) (p12 : Int32) (h0 : Heap) (n0 : Nat) (Z0 : n0 ≤ h0.size) (F4 : Fld Z h0 a1 zs22 "counts" "[I" (.ref a3)) (F7 : Exa Z h0 a2 zs0) (F9 : Fld Z h0 a2 zs26 "ordinal" "I" (.int p8)) (F13 : Arh Z h0 a3 kc11 .int (8 : Int32) [(p8, (.int 1)), (p8, (.int 1)), (p12, (.int 1))] [] (.int (0 : Int32))) (hc14 : ¬ (p8 < (0 : Int32))) (hc15 : p8 < (8 : Int32)) :
    MetFree l zm10 (head1 (Jvm.Cond.code zm10 prog_30_method_5_code 2 (some .int) :: ws) ({ frames := 1, cells := 0, slots := 0, locals := 13 } : Room)) (fun a U => a = #[(.ref a1), (.ref a2)] ∧ Z.Warmed39 U.vm ∧ U.heap = h0) (fun _ _ _ _ _ => True) (fun _ U o U' => ∃ v L, o = .returned v ∧ Q11_45 Z a1 a2 a3 p8 kc11 p12 h0 n0 v U'.heap L ∧ FrameEnd U o U' L ({ frames := 1, cells := 0, slots := 0, locals := 13 } : Room).cells ({ frames := 1, cells := 0, slots := 0, locals := 13 } : Room).slots) := by
  refine MetFree.of_bodySF (plainFor_of_name pn_5) hisR ?_
  intro p e s m args below meth c s₁ Bd hml0 hP hK
  obtain ⟨rfl, hZ, hh⟩ := hP
  have hx := Bd.exec
  have hby := Bd.bytes
  have hml : c.maxLocals = 2 := hml0
  have hown : s.vm.findClass zs22 = some m.cls := findClass_of_methodNamed Bd.named
  have hnm := (name_of_methodNamed Bd.named Bd.method).1
  have X0 : Stand p l e ({ frames := 1, cells := 0, slots := 0, locals := 13 } : Room) s m #[(.ref a1), (.ref a2)] below meth c s₁ [] 0 0 := Stand.of_body Bd
  have e0 : s₁.heap = h0 := by rw [← hh, Bd.state]; rfl
  have N0 := Fr.nil n0
  refine own_pre (g' := mkF m 0 (lc16 a1 a2) []) (ef_4 m a1 a2) ?_
  obtain ⟨T5, X5, e5, st5⟩ := getF X0 hx hZ hown (host := "") (Or.inl (ww hw 41 rfl)) Via.refl e0 F4 (g := (mkF m 1 (lc16 a1 a2) [(.ref a1)])) rfl rfl (hb hby d11_1)
  obtain ⟨_, T6, L6, X6, hQ6, st6⟩ := ocallU X5 hx hZ zm8 zm6 hown (ww hw 74 rfl) (ww hw 75 rfl) (ww hw 76 rfl) (by decide) (ww hw 78 rfl) (ww hw 77 rfl) (ww hw 80 rfl) (ww hw 79 rfl) e5 F7 (rm9_14 l Z a0 hw [] a2 p8 h0 n0 Z0 F9) (st := [(.ref a2), (.ref a3)]) rfl 1 rfl (by decide) (pc := 5) (Ls := (lc16 a1 a2)) hml rfl (lenOf pd_3 rfl) d11_5 hby
  obtain ⟨rfl, N6q, e6⟩ := hQ6
  have N10 := Fr.app N0 N6q
  obtain ⟨cl16, Ar16, q16, S16, N16, H16, G16⟩ := id F13
  have hin17 : ¬ (p8 < 0 ∨ cl16.slots.size ≤ (p8).toNatClampNeg) := inb_of S16 ⟨hc14, hc15⟩
  have hat17 : cl16.slots[(p8).toNatClampNeg]? = some (.int 1) := atH H16 hin17 (getH_hit hc14 (rfl : p8 = p8))
  refine own_go (U' := T6.setTop (mkF m 9 (lc16 a1 a2) [(.int 1)])) (fun t k => oaloadN X0 hx hby d11_0 rfl rfl (st5 _ (oaloadN X5 hx hby d11_4 rfl rfl (st6 _ (X6.iaload hx (j := p8) (v := (.int 1)) (own_at e6 Ar16.1) (State.isArrayOf_alike hZ.alike Ar16.2.1) Ar16.2.2 hin17 hat17 (g := (mkF m 8 (lc16 a1 a2) [(.int p8), (.ref a3)])) rfl rfl (hb hby d11_8) _ k))))) ?_
  obtain ⟨fs, hr, hrun, hended, hW, hsame⟩ := X6.leave (v := some (.int 1)) (fun h => by rw [Bd.returns] at h; cases h)
  refine own_out ⟨_, _, ?_, hrun, hended, _, _, rfl, ?_, ⟨_, rfl⟩, hW, hsame.mono (by decide) (by decide)⟩
  · exact retI X6 hx Bd.returns (hb hby d11_9) hr
  · show Q11_45 Z a1 a2 a3 p8 kc11 p12 h0 n0 _ T6.heap _
    rw [e6]
    exact ⟨rfl, N10, rfl⟩
def Q11_46 (Z : State) (a1 a2 a3 : Addr) (p8 : Int32) (kc11 : ClassId) (p12 p13 : Int32) (h0 : Heap) (n0 : Nat) (v : Option Value) (h : Heap) (L : List Loc) : Prop := v = some (.int 1) ∧ Fr n0 L ∧ h = h0
set_option maxRecDepth 65536 in
set_option maxHeartbeats 40000000 in
theorem rm11_46 (l : Launch) (Z : State) (a0 : Array Value) (hw : ∀ d ∈ tables_1, d.before a0 Z = true) (ws : List Jvm.Cond) (a1 a2 a3 : Addr) (p8 : Int32) (kc11 : ClassId) (p12 p13 : Int32) (h0 : Heap) (n0 : Nat) (Z0 : n0 ≤ h0.size) (F4 : Fld Z h0 a1 zs22 "counts" "[I" (.ref a3)) (F7 : Exa Z h0 a2 zs0) (F9 : Fld Z h0 a2 zs26 "ordinal" "I" (.int p8)) (F14 : Arh Z h0 a3 kc11 .int (8 : Int32) [(p12, (.int 1)), (p12, (.int 1)), (p13, (.int 1))] [] (.int (0 : Int32))) (hc15 : ¬ (p8 < (0 : Int32))) (hc16 : p8 < (8 : Int32)) (hc17 : p8 = p12) :
    MetFree l zm10 (head1 (Jvm.Cond.code zm10 prog_30_method_5_code 2 (some .int) :: ws) ({ frames := 1, cells := 0, slots := 0, locals := 13 } : Room)) (fun a U => a = #[(.ref a1), (.ref a2)] ∧ Z.Warmed39 U.vm ∧ U.heap = h0) (fun _ _ _ _ _ => True) (fun _ U o U' => ∃ v L, o = .returned v ∧ Q11_46 Z a1 a2 a3 p8 kc11 p12 p13 h0 n0 v U'.heap L ∧ FrameEnd U o U' L ({ frames := 1, cells := 0, slots := 0, locals := 13 } : Room).cells ({ frames := 1, cells := 0, slots := 0, locals := 13 } : Room).slots) := by
  refine MetFree.of_bodySF (plainFor_of_name pn_5) hisR ?_
  intro p e s m args below meth c s₁ Bd hml0 hP hK
  obtain ⟨rfl, hZ, hh⟩ := hP
  have hx := Bd.exec
  have hby := Bd.bytes
  have hml : c.maxLocals = 2 := hml0
  have hown : s.vm.findClass zs22 = some m.cls := findClass_of_methodNamed Bd.named
  have hnm := (name_of_methodNamed Bd.named Bd.method).1
  have X0 : Stand p l e ({ frames := 1, cells := 0, slots := 0, locals := 13 } : Room) s m #[(.ref a1), (.ref a2)] below meth c s₁ [] 0 0 := Stand.of_body Bd
  have e0 : s₁.heap = h0 := by rw [← hh, Bd.state]; rfl
  have N0 := Fr.nil n0
  refine own_pre (g' := mkF m 0 (lc16 a1 a2) []) (ef_4 m a1 a2) ?_
  obtain ⟨T5, X5, e5, st5⟩ := getF X0 hx hZ hown (host := "") (Or.inl (ww hw 41 rfl)) Via.refl e0 F4 (g := (mkF m 1 (lc16 a1 a2) [(.ref a1)])) rfl rfl (hb hby d11_1)
  obtain ⟨_, T6, L6, X6, hQ6, st6⟩ := ocallU X5 hx hZ zm8 zm6 hown (ww hw 74 rfl) (ww hw 75 rfl) (ww hw 76 rfl) (by decide) (ww hw 78 rfl) (ww hw 77 rfl) (ww hw 80 rfl) (ww hw 79 rfl) e5 F7 (rm9_14 l Z a0 hw [] a2 p8 h0 n0 Z0 F9) (st := [(.ref a2), (.ref a3)]) rfl 1 rfl (by decide) (pc := 5) (Ls := (lc16 a1 a2)) hml rfl (lenOf pd_3 rfl) d11_5 hby
  obtain ⟨rfl, N6q, e6⟩ := hQ6
  have N10 := Fr.app N0 N6q
  obtain ⟨cl18, Ar18, q18, S18, N18, H18, G18⟩ := id F14
  have hin19 : ¬ (p8 < 0 ∨ cl18.slots.size ≤ (p8).toNatClampNeg) := inb_of S18 ⟨hc15, hc16⟩
  have hat19 : cl18.slots[(p8).toNatClampNeg]? = some (.int 1) := atH H18 hin19 (getH_hit hc15 hc17)
  refine own_go (U' := T6.setTop (mkF m 9 (lc16 a1 a2) [(.int 1)])) (fun t k => oaloadN X0 hx hby d11_0 rfl rfl (st5 _ (oaloadN X5 hx hby d11_4 rfl rfl (st6 _ (X6.iaload hx (j := p8) (v := (.int 1)) (own_at e6 Ar18.1) (State.isArrayOf_alike hZ.alike Ar18.2.1) Ar18.2.2 hin19 hat19 (g := (mkF m 8 (lc16 a1 a2) [(.int p8), (.ref a3)])) rfl rfl (hb hby d11_8) _ k))))) ?_
  obtain ⟨fs, hr, hrun, hended, hW, hsame⟩ := X6.leave (v := some (.int 1)) (fun h => by rw [Bd.returns] at h; cases h)
  refine own_out ⟨_, _, ?_, hrun, hended, _, _, rfl, ?_, ⟨_, rfl⟩, hW, hsame.mono (by decide) (by decide)⟩
  · exact retI X6 hx Bd.returns (hb hby d11_9) hr
  · show Q11_46 Z a1 a2 a3 p8 kc11 p12 p13 h0 n0 _ T6.heap _
    rw [e6]
    exact ⟨rfl, N10, rfl⟩
def Q11_47 (Z : State) (a1 a2 a3 : Addr) (p8 : Int32) (kc11 : ClassId) (p12 p13 : Int32) (h0 : Heap) (n0 : Nat) (v : Option Value) (h : Heap) (L : List Loc) : Prop := v = some (.int 0) ∧ Fr n0 L ∧ h = h0
set_option maxRecDepth 65536 in
set_option maxHeartbeats 40000000 in
theorem rm11_47 (l : Launch) (Z : State) (a0 : Array Value) (hw : ∀ d ∈ tables_1, d.before a0 Z = true) (ws : List Jvm.Cond) (a1 a2 a3 : Addr) (p8 : Int32) (kc11 : ClassId) (p12 p13 : Int32) (h0 : Heap) (n0 : Nat) (Z0 : n0 ≤ h0.size) (F4 : Fld Z h0 a1 zs22 "counts" "[I" (.ref a3)) (F7 : Exa Z h0 a2 zs0) (F9 : Fld Z h0 a2 zs26 "ordinal" "I" (.int p8)) (F14 : Arh Z h0 a3 kc11 .int (8 : Int32) [(p12, (.int 1)), (p12, (.int 1)), (p13, (.int 1))] [] (.int (0 : Int32))) (hc15 : ¬ (p8 < (0 : Int32))) (hc16 : p8 < (8 : Int32)) (hc17 : ¬ (p8 = p12)) (hc18 : ¬ (p8 = p13)) :
    MetFree l zm10 (head1 (Jvm.Cond.code zm10 prog_30_method_5_code 2 (some .int) :: ws) ({ frames := 1, cells := 0, slots := 0, locals := 13 } : Room)) (fun a U => a = #[(.ref a1), (.ref a2)] ∧ Z.Warmed39 U.vm ∧ U.heap = h0) (fun _ _ _ _ _ => True) (fun _ U o U' => ∃ v L, o = .returned v ∧ Q11_47 Z a1 a2 a3 p8 kc11 p12 p13 h0 n0 v U'.heap L ∧ FrameEnd U o U' L ({ frames := 1, cells := 0, slots := 0, locals := 13 } : Room).cells ({ frames := 1, cells := 0, slots := 0, locals := 13 } : Room).slots) := by
  refine MetFree.of_bodySF (plainFor_of_name pn_5) hisR ?_
  intro p e s m args below meth c s₁ Bd hml0 hP hK
  obtain ⟨rfl, hZ, hh⟩ := hP
  have hx := Bd.exec
  have hby := Bd.bytes
  have hml : c.maxLocals = 2 := hml0
  have hown : s.vm.findClass zs22 = some m.cls := findClass_of_methodNamed Bd.named
  have hnm := (name_of_methodNamed Bd.named Bd.method).1
  have X0 : Stand p l e ({ frames := 1, cells := 0, slots := 0, locals := 13 } : Room) s m #[(.ref a1), (.ref a2)] below meth c s₁ [] 0 0 := Stand.of_body Bd
  have e0 : s₁.heap = h0 := by rw [← hh, Bd.state]; rfl
  have N0 := Fr.nil n0
  refine own_pre (g' := mkF m 0 (lc16 a1 a2) []) (ef_4 m a1 a2) ?_
  obtain ⟨T5, X5, e5, st5⟩ := getF X0 hx hZ hown (host := "") (Or.inl (ww hw 41 rfl)) Via.refl e0 F4 (g := (mkF m 1 (lc16 a1 a2) [(.ref a1)])) rfl rfl (hb hby d11_1)
  obtain ⟨_, T6, L6, X6, hQ6, st6⟩ := ocallU X5 hx hZ zm8 zm6 hown (ww hw 74 rfl) (ww hw 75 rfl) (ww hw 76 rfl) (by decide) (ww hw 78 rfl) (ww hw 77 rfl) (ww hw 80 rfl) (ww hw 79 rfl) e5 F7 (rm9_14 l Z a0 hw [] a2 p8 h0 n0 Z0 F9) (st := [(.ref a2), (.ref a3)]) rfl 1 rfl (by decide) (pc := 5) (Ls := (lc16 a1 a2)) hml rfl (lenOf pd_3 rfl) d11_5 hby
  obtain ⟨rfl, N6q, e6⟩ := hQ6
  have N10 := Fr.app N0 N6q
  obtain ⟨cl19, Ar19, q19, S19, N19, H19, G19⟩ := id F14
  have hin20 : ¬ (p8 < 0 ∨ cl19.slots.size ≤ (p8).toNatClampNeg) := inb_of S19 ⟨hc15, hc16⟩
  have hat20 : cl19.slots[(p8).toNatClampNeg]? = some (.int 0) := atH H19 hin20 (getH_miss hc15 hc17 (getH_miss hc15 hc17 (getH_miss hc15 hc18 rfl)))
  refine own_go (U' := T6.setTop (mkF m 9 (lc16 a1 a2) [(.int 0)])) (fun t k => oaloadN X0 hx hby d11_0 rfl rfl (st5 _ (oaloadN X5 hx hby d11_4 rfl rfl (st6 _ (X6.iaload hx (j := p8) (v := (.int 0)) (own_at e6 Ar19.1) (State.isArrayOf_alike hZ.alike Ar19.2.1) Ar19.2.2 hin20 hat20 (g := (mkF m 8 (lc16 a1 a2) [(.int p8), (.ref a3)])) rfl rfl (hb hby d11_8) _ k))))) ?_
  obtain ⟨fs, hr, hrun, hended, hW, hsame⟩ := X6.leave (v := some (.int 0)) (fun h => by rw [Bd.returns] at h; cases h)
  refine own_out ⟨_, _, ?_, hrun, hended, _, _, rfl, ?_, ⟨_, rfl⟩, hW, hsame.mono (by decide) (by decide)⟩
  · exact retI X6 hx Bd.returns (hb hby d11_9) hr
  · show Q11_47 Z a1 a2 a3 p8 kc11 p12 p13 h0 n0 _ T6.heap _
    rw [e6]
    exact ⟨rfl, N10, rfl⟩
def Q8_48 (Z : State) (a1 a2 a3 : Addr) (p8 : Int32) (kc11 : ClassId) (p12 : Int32) (h0 : Heap) (n0 : Nat) (v : Option Value) (h : Heap) (L : List Loc) : Prop := v = none ∧ Fr n0 L ∧ Keep h0 h [a3] ∧ Arh Z h a3 kc11 .int (8 : Int32) [(p8, (.int 0)), (p12, (.int 1))] [] (.int (0 : Int32))
set_option maxRecDepth 65536 in
set_option maxHeartbeats 40000000 in
theorem rm8_48 (l : Launch) (Z : State) (a0 : Array Value) (hw : ∀ d ∈ tables_1, d.before a0 Z = true) (ws : List Jvm.Cond) (a1 a2 a3 : Addr) (p8 : Int32) (kc11 : ClassId) (p12 : Int32) (h0 : Heap) (n0 : Nat) (Z0 : n0 ≤ h0.size) (F4 : Fld Z h0 a1 zs22 "counts" "[I" (.ref a3)) (F7 : Exa Z h0 a2 zs0) (F9 : Fld Z h0 a2 zs26 "ordinal" "I" (.int p8)) (F13 : Arh Z h0 a3 kc11 .int (8 : Int32) [(p12, (.int 1))] [] (.int (0 : Int32))) (hc14 : ¬ (p8 < (0 : Int32))) (hc15 : p8 < (8 : Int32)) (hc16 : ¬ (p8 = p12)) (g21 : n0 ≤ a3) :
    MetFree l zm7 (head1 (Jvm.Cond.code zm7 prog_30_method_2_code 3 none :: ws) ({ frames := 1, cells := 0, slots := 0, locals := 13 } : Room)) (fun a U => a = #[(.ref a1), (.ref a2), (.int 0)] ∧ Z.Warmed39 U.vm ∧ U.heap = h0) (fun _ _ _ _ _ => True) (fun _ U o U' => ∃ v L, o = .returned v ∧ Q8_48 Z a1 a2 a3 p8 kc11 p12 h0 n0 v U'.heap L ∧ FrameEnd U o U' L ({ frames := 1, cells := 0, slots := 0, locals := 13 } : Room).cells ({ frames := 1, cells := 0, slots := 0, locals := 13 } : Room).slots) := by
  refine MetFree.of_bodySF (plainFor_of_name pn_5) hisR ?_
  intro p e s m args below meth c s₁ Bd hml0 hP hK
  obtain ⟨rfl, hZ, hh⟩ := hP
  have hx := Bd.exec
  have hby := Bd.bytes
  have hml : c.maxLocals = 3 := hml0
  have hown : s.vm.findClass zs22 = some m.cls := findClass_of_methodNamed Bd.named
  have hnm := (name_of_methodNamed Bd.named Bd.method).1
  have X0 : Stand p l e ({ frames := 1, cells := 0, slots := 0, locals := 13 } : Room) s m #[(.ref a1), (.ref a2), (.int 0)] below meth c s₁ [] 0 0 := Stand.of_body Bd
  have e0 : s₁.heap = h0 := by rw [← hh, Bd.state]; rfl
  have N0 := Fr.nil n0
  refine own_pre (g' := mkF m 0 (lc13 a1 a2 0) []) (ef_3 m a1 a2 (0 : Int32)) ?_
  obtain ⟨T5, X5, e5, st5⟩ := getF X0 hx hZ hown (host := "") (Or.inl (ww hw 41 rfl)) Via.refl e0 F4 (g := (mkF m 1 (lc13 a1 a2 0) [(.ref a1)])) rfl rfl (hb hby d8_1)
  obtain ⟨_, T6, L6, X6, hQ6, st6⟩ := ocallU X5 hx hZ zm8 zm6 hown (ww hw 74 rfl) (ww hw 75 rfl) (ww hw 76 rfl) (by decide) (ww hw 78 rfl) (ww hw 77 rfl) (ww hw 80 rfl) (ww hw 79 rfl) e5 F7 (rm9_14 l Z a0 hw [] a2 p8 h0 n0 Z0 F9) (st := [(.ref a2), (.ref a3)]) rfl 1 rfl (by decide) (pc := 5) (Ls := (lc13 a1 a2 0)) hml rfl (lenOf pd_3 rfl) d8_5 hby
  obtain ⟨rfl, N6q, e6⟩ := hQ6
  have N10 := Fr.app N0 N6q
  obtain ⟨cl17, Ar17, q17, S17, N17, H17, G17⟩ := id F13
  have hin18 : ¬ (p8 < 0 ∨ cl17.slots.size ≤ (p8).toNatClampNeg) := inb_of S17 ⟨hc14, hc15⟩
  have hat18 : cl17.slots[(p8).toNatClampNeg]? = some (.int 0) := atH H17 hin18 (getH_miss hc14 hc16 rfl)
  refine own_go (U' := T6.setTop (mkF m 11 (lc13 a1 a2 0) [(.int 0), (.int 0), (.int p8), (.ref a3)])) (fun t k => oaloadN X0 hx hby d8_0 rfl rfl (st5 _ (oaloadN X5 hx hby d8_4 rfl rfl (st6 _ (odup2 X6 hx hby d8_8 rfl rfl (X6.iaload hx (j := p8) (v := (.int 0)) (own_at e6 Ar17.1) (State.isArrayOf_alike hZ.alike Ar17.2.1) Ar17.2.2 hin18 hat18 (g := (mkF m 9 (lc13 a1 a2 0) [(.int p8), (.ref a3), (.int p8), (.ref a3)])) rfl rfl (hb hby d8_9) _ (oiloadN X6 hx hby d8_10 rfl k))))))) ?_
  obtain ⟨cl19, Ar19, q19, S19, N19, H19, G19⟩ := id F13
  have hin20 : ¬ (p8 < 0 ∨ cl19.slots.size ≤ (p8).toNatClampNeg) := inb_of S19 ⟨hc14, hc15⟩
  obtain ⟨T20, h20, X20, e20, W20, st20⟩ := stI X6 hx hZ e6 Ar19 (j := p8) hin20 (g := (mkF m 20 (lc13 a1 a2 0) [(.int 0), (.int p8), (.ref a3)])) rfl rfl (hb hby d8_20)
  have N22 := Fr.snoc X20 N10 g21
  have f23 : Arh Z h20 a3 kc11 .int (8 : Int32) [(p8, (.int 0)), (p12, (.int 1))] [] (.int (0 : Int32)) := Arh.push Ar19 q19 S19 N19 H19 G19 (by rfl) W20 hin20
  refine own_go (U' := T20.setTop (mkF m 21 (lc13 a1 a2 0) [])) (fun t k => oifY (pc := 11) X6 hx hby d8_11 18 (by decide) (by decide) (oiconst X6 hx hby d8_18 (oiadd X6 hx hby d8_19 (st20 _ k)))) ?_
  obtain ⟨fs, hr, hrun, hended, hW, hsame⟩ := X20.leave (v := none) (fun _ => rfl)
  refine own_out ⟨_, _, ?_, hrun, hended, _, _, rfl, ?_, ⟨_, rfl⟩, hW, hsame.mono (by decide) (by decide)⟩
  · exact X20.returnOut hx Bd.returns (hb hby d8_21) hr
  · show Q8_48 Z a1 a2 a3 p8 kc11 p12 h0 n0 _ T20.heap _
    rw [e20]
    exact ⟨rfl, N22, ((Keep.refl h0 [a3]).wr W20 (Or.inl (List.mem_of_getElem? (i := 0) rfl))), f23⟩
def Q8_49 (Z : State) (a1 a2 a3 : Addr) (p8 : Int32) (kc11 : ClassId) (p12 : Int32) (h0 : Heap) (n0 : Nat) (v : Option Value) (h : Heap) (L : List Loc) : Prop := v = none ∧ Fr n0 L ∧ Keep h0 h [a3] ∧ Arh Z h a3 kc11 .int (8 : Int32) [(p8, (.int 0)), (p8, (.int 0)), (p12, (.int 1))] [] (.int (0 : Int32))
set_option maxRecDepth 65536 in
set_option maxHeartbeats 40000000 in
theorem rm8_49 (l : Launch) (Z : State) (a0 : Array Value) (hw : ∀ d ∈ tables_1, d.before a0 Z = true) (ws : List Jvm.Cond) (a1 a2 a3 : Addr) (p8 : Int32) (kc11 : ClassId) (p12 : Int32) (h0 : Heap) (n0 : Nat) (Z0 : n0 ≤ h0.size) (F4 : Fld Z h0 a1 zs22 "counts" "[I" (.ref a3)) (F7 : Exa Z h0 a2 zs0) (F9 : Fld Z h0 a2 zs26 "ordinal" "I" (.int p8)) (F13 : Arh Z h0 a3 kc11 .int (8 : Int32) [(p8, (.int 0)), (p12, (.int 1))] [] (.int (0 : Int32))) (hc14 : ¬ (p8 < (0 : Int32))) (hc15 : p8 < (8 : Int32)) (g20 : n0 ≤ a3) :
    MetFree l zm7 (head1 (Jvm.Cond.code zm7 prog_30_method_2_code 3 none :: ws) ({ frames := 1, cells := 0, slots := 0, locals := 13 } : Room)) (fun a U => a = #[(.ref a1), (.ref a2), (.int 0)] ∧ Z.Warmed39 U.vm ∧ U.heap = h0) (fun _ _ _ _ _ => True) (fun _ U o U' => ∃ v L, o = .returned v ∧ Q8_49 Z a1 a2 a3 p8 kc11 p12 h0 n0 v U'.heap L ∧ FrameEnd U o U' L ({ frames := 1, cells := 0, slots := 0, locals := 13 } : Room).cells ({ frames := 1, cells := 0, slots := 0, locals := 13 } : Room).slots) := by
  refine MetFree.of_bodySF (plainFor_of_name pn_5) hisR ?_
  intro p e s m args below meth c s₁ Bd hml0 hP hK
  obtain ⟨rfl, hZ, hh⟩ := hP
  have hx := Bd.exec
  have hby := Bd.bytes
  have hml : c.maxLocals = 3 := hml0
  have hown : s.vm.findClass zs22 = some m.cls := findClass_of_methodNamed Bd.named
  have hnm := (name_of_methodNamed Bd.named Bd.method).1
  have X0 : Stand p l e ({ frames := 1, cells := 0, slots := 0, locals := 13 } : Room) s m #[(.ref a1), (.ref a2), (.int 0)] below meth c s₁ [] 0 0 := Stand.of_body Bd
  have e0 : s₁.heap = h0 := by rw [← hh, Bd.state]; rfl
  have N0 := Fr.nil n0
  refine own_pre (g' := mkF m 0 (lc13 a1 a2 0) []) (ef_3 m a1 a2 (0 : Int32)) ?_
  obtain ⟨T5, X5, e5, st5⟩ := getF X0 hx hZ hown (host := "") (Or.inl (ww hw 41 rfl)) Via.refl e0 F4 (g := (mkF m 1 (lc13 a1 a2 0) [(.ref a1)])) rfl rfl (hb hby d8_1)
  obtain ⟨_, T6, L6, X6, hQ6, st6⟩ := ocallU X5 hx hZ zm8 zm6 hown (ww hw 74 rfl) (ww hw 75 rfl) (ww hw 76 rfl) (by decide) (ww hw 78 rfl) (ww hw 77 rfl) (ww hw 80 rfl) (ww hw 79 rfl) e5 F7 (rm9_14 l Z a0 hw [] a2 p8 h0 n0 Z0 F9) (st := [(.ref a2), (.ref a3)]) rfl 1 rfl (by decide) (pc := 5) (Ls := (lc13 a1 a2 0)) hml rfl (lenOf pd_3 rfl) d8_5 hby
  obtain ⟨rfl, N6q, e6⟩ := hQ6
  have N10 := Fr.app N0 N6q
  obtain ⟨cl16, Ar16, q16, S16, N16, H16, G16⟩ := id F13
  have hin17 : ¬ (p8 < 0 ∨ cl16.slots.size ≤ (p8).toNatClampNeg) := inb_of S16 ⟨hc14, hc15⟩
  have hat17 : cl16.slots[(p8).toNatClampNeg]? = some (.int 0) := atH H16 hin17 (getH_hit hc14 (rfl : p8 = p8))
  refine own_go (U' := T6.setTop (mkF m 11 (lc13 a1 a2 0) [(.int 0), (.int 0), (.int p8), (.ref a3)])) (fun t k => oaloadN X0 hx hby d8_0 rfl rfl (st5 _ (oaloadN X5 hx hby d8_4 rfl rfl (st6 _ (odup2 X6 hx hby d8_8 rfl rfl (X6.iaload hx (j := p8) (v := (.int 0)) (own_at e6 Ar16.1) (State.isArrayOf_alike hZ.alike Ar16.2.1) Ar16.2.2 hin17 hat17 (g := (mkF m 9 (lc13 a1 a2 0) [(.int p8), (.ref a3), (.int p8), (.ref a3)])) rfl rfl (hb hby d8_9) _ (oiloadN X6 hx hby d8_10 rfl k))))))) ?_
  obtain ⟨cl18, Ar18, q18, S18, N18, H18, G18⟩ := id F13
  have hin19 : ¬ (p8 < 0 ∨ cl18.slots.size ≤ (p8).toNatClampNeg) := inb_of S18 ⟨hc14, hc15⟩
  obtain ⟨T19, h19, X19, e19, W19, st19⟩ := stI X6 hx hZ e6 Ar18 (j := p8) hin19 (g := (mkF m 20 (lc13 a1 a2 0) [(.int 0), (.int p8), (.ref a3)])) rfl rfl (hb hby d8_20)
  have N21 := Fr.snoc X19 N10 g20
  have f22 : Arh Z h19 a3 kc11 .int (8 : Int32) [(p8, (.int 0)), (p8, (.int 0)), (p12, (.int 1))] [] (.int (0 : Int32)) := Arh.push Ar18 q18 S18 N18 H18 G18 (by rfl) W19 hin19
  refine own_go (U' := T19.setTop (mkF m 21 (lc13 a1 a2 0) [])) (fun t k => oifY (pc := 11) X6 hx hby d8_11 18 (by decide) (by decide) (oiconst X6 hx hby d8_18 (oiadd X6 hx hby d8_19 (st19 _ k)))) ?_
  obtain ⟨fs, hr, hrun, hended, hW, hsame⟩ := X19.leave (v := none) (fun _ => rfl)
  refine own_out ⟨_, _, ?_, hrun, hended, _, _, rfl, ?_, ⟨_, rfl⟩, hW, hsame.mono (by decide) (by decide)⟩
  · exact X19.returnOut hx Bd.returns (hb hby d8_21) hr
  · show Q8_49 Z a1 a2 a3 p8 kc11 p12 h0 n0 _ T19.heap _
    rw [e19]
    exact ⟨rfl, N21, ((Keep.refl h0 [a3]).wr W19 (Or.inl (List.mem_of_getElem? (i := 0) rfl))), f22⟩
def Q11_50 (Z : State) (a1 a2 a3 : Addr) (p8 : Int32) (kc11 : ClassId) (p12 : Int32) (h0 : Heap) (n0 : Nat) (v : Option Value) (h : Heap) (L : List Loc) : Prop := v = some (.int 0) ∧ Fr n0 L ∧ h = h0
set_option maxRecDepth 65536 in
set_option maxHeartbeats 40000000 in
theorem rm11_50 (l : Launch) (Z : State) (a0 : Array Value) (hw : ∀ d ∈ tables_1, d.before a0 Z = true) (ws : List Jvm.Cond) (a1 a2 a3 : Addr) (p8 : Int32) (kc11 : ClassId) (p12 : Int32) (h0 : Heap) (n0 : Nat) (Z0 : n0 ≤ h0.size) (F4 : Fld Z h0 a1 zs22 "counts" "[I" (.ref a3)) (F7 : Exa Z h0 a2 zs0) (F9 : Fld Z h0 a2 zs26 "ordinal" "I" (.int p8)) (F13 : Arh Z h0 a3 kc11 .int (8 : Int32) [(p8, (.int 0)), (p8, (.int 0)), (p12, (.int 1))] [] (.int (0 : Int32))) (hc14 : ¬ (p8 < (0 : Int32))) (hc15 : p8 < (8 : Int32)) :
    MetFree l zm10 (head1 (Jvm.Cond.code zm10 prog_30_method_5_code 2 (some .int) :: ws) ({ frames := 1, cells := 0, slots := 0, locals := 13 } : Room)) (fun a U => a = #[(.ref a1), (.ref a2)] ∧ Z.Warmed39 U.vm ∧ U.heap = h0) (fun _ _ _ _ _ => True) (fun _ U o U' => ∃ v L, o = .returned v ∧ Q11_50 Z a1 a2 a3 p8 kc11 p12 h0 n0 v U'.heap L ∧ FrameEnd U o U' L ({ frames := 1, cells := 0, slots := 0, locals := 13 } : Room).cells ({ frames := 1, cells := 0, slots := 0, locals := 13 } : Room).slots) := by
  refine MetFree.of_bodySF (plainFor_of_name pn_5) hisR ?_
  intro p e s m args below meth c s₁ Bd hml0 hP hK
  obtain ⟨rfl, hZ, hh⟩ := hP
  have hx := Bd.exec
  have hby := Bd.bytes
  have hml : c.maxLocals = 2 := hml0
  have hown : s.vm.findClass zs22 = some m.cls := findClass_of_methodNamed Bd.named
  have hnm := (name_of_methodNamed Bd.named Bd.method).1
  have X0 : Stand p l e ({ frames := 1, cells := 0, slots := 0, locals := 13 } : Room) s m #[(.ref a1), (.ref a2)] below meth c s₁ [] 0 0 := Stand.of_body Bd
  have e0 : s₁.heap = h0 := by rw [← hh, Bd.state]; rfl
  have N0 := Fr.nil n0
  refine own_pre (g' := mkF m 0 (lc16 a1 a2) []) (ef_4 m a1 a2) ?_
  obtain ⟨T5, X5, e5, st5⟩ := getF X0 hx hZ hown (host := "") (Or.inl (ww hw 41 rfl)) Via.refl e0 F4 (g := (mkF m 1 (lc16 a1 a2) [(.ref a1)])) rfl rfl (hb hby d11_1)
  obtain ⟨_, T6, L6, X6, hQ6, st6⟩ := ocallU X5 hx hZ zm8 zm6 hown (ww hw 74 rfl) (ww hw 75 rfl) (ww hw 76 rfl) (by decide) (ww hw 78 rfl) (ww hw 77 rfl) (ww hw 80 rfl) (ww hw 79 rfl) e5 F7 (rm9_14 l Z a0 hw [] a2 p8 h0 n0 Z0 F9) (st := [(.ref a2), (.ref a3)]) rfl 1 rfl (by decide) (pc := 5) (Ls := (lc16 a1 a2)) hml rfl (lenOf pd_3 rfl) d11_5 hby
  obtain ⟨rfl, N6q, e6⟩ := hQ6
  have N10 := Fr.app N0 N6q
  obtain ⟨cl16, Ar16, q16, S16, N16, H16, G16⟩ := id F13
  have hin17 : ¬ (p8 < 0 ∨ cl16.slots.size ≤ (p8).toNatClampNeg) := inb_of S16 ⟨hc14, hc15⟩
  have hat17 : cl16.slots[(p8).toNatClampNeg]? = some (.int 0) := atH H16 hin17 (getH_hit hc14 (rfl : p8 = p8))
  refine own_go (U' := T6.setTop (mkF m 9 (lc16 a1 a2) [(.int 0)])) (fun t k => oaloadN X0 hx hby d11_0 rfl rfl (st5 _ (oaloadN X5 hx hby d11_4 rfl rfl (st6 _ (X6.iaload hx (j := p8) (v := (.int 0)) (own_at e6 Ar16.1) (State.isArrayOf_alike hZ.alike Ar16.2.1) Ar16.2.2 hin17 hat17 (g := (mkF m 8 (lc16 a1 a2) [(.int p8), (.ref a3)])) rfl rfl (hb hby d11_8) _ k))))) ?_
  obtain ⟨fs, hr, hrun, hended, hW, hsame⟩ := X6.leave (v := some (.int 0)) (fun h => by rw [Bd.returns] at h; cases h)
  refine own_out ⟨_, _, ?_, hrun, hended, _, _, rfl, ?_, ⟨_, rfl⟩, hW, hsame.mono (by decide) (by decide)⟩
  · exact retI X6 hx Bd.returns (hb hby d11_9) hr
  · show Q11_50 Z a1 a2 a3 p8 kc11 p12 h0 n0 _ T6.heap _
    rw [e6]
    exact ⟨rfl, N10, rfl⟩
def Q11_51 (Z : State) (a1 a2 a3 : Addr) (p8 : Int32) (kc11 : ClassId) (p12 p13 : Int32) (h0 : Heap) (n0 : Nat) (v : Option Value) (h : Heap) (L : List Loc) : Prop := v = some (.int 1) ∧ Fr n0 L ∧ h = h0
set_option maxRecDepth 65536 in
set_option maxHeartbeats 40000000 in
theorem rm11_51 (l : Launch) (Z : State) (a0 : Array Value) (hw : ∀ d ∈ tables_1, d.before a0 Z = true) (ws : List Jvm.Cond) (a1 a2 a3 : Addr) (p8 : Int32) (kc11 : ClassId) (p12 p13 : Int32) (h0 : Heap) (n0 : Nat) (Z0 : n0 ≤ h0.size) (F4 : Fld Z h0 a1 zs22 "counts" "[I" (.ref a3)) (F7 : Exa Z h0 a2 zs0) (F9 : Fld Z h0 a2 zs26 "ordinal" "I" (.int p8)) (F14 : Arh Z h0 a3 kc11 .int (8 : Int32) [(p12, (.int 0)), (p12, (.int 0)), (p13, (.int 1))] [] (.int (0 : Int32))) (hc15 : ¬ (p8 < (0 : Int32))) (hc16 : p8 < (8 : Int32)) (hc17 : ¬ (p8 = p12)) (hc18 : p8 = p13) :
    MetFree l zm10 (head1 (Jvm.Cond.code zm10 prog_30_method_5_code 2 (some .int) :: ws) ({ frames := 1, cells := 0, slots := 0, locals := 13 } : Room)) (fun a U => a = #[(.ref a1), (.ref a2)] ∧ Z.Warmed39 U.vm ∧ U.heap = h0) (fun _ _ _ _ _ => True) (fun _ U o U' => ∃ v L, o = .returned v ∧ Q11_51 Z a1 a2 a3 p8 kc11 p12 p13 h0 n0 v U'.heap L ∧ FrameEnd U o U' L ({ frames := 1, cells := 0, slots := 0, locals := 13 } : Room).cells ({ frames := 1, cells := 0, slots := 0, locals := 13 } : Room).slots) := by
  refine MetFree.of_bodySF (plainFor_of_name pn_5) hisR ?_
  intro p e s m args below meth c s₁ Bd hml0 hP hK
  obtain ⟨rfl, hZ, hh⟩ := hP
  have hx := Bd.exec
  have hby := Bd.bytes
  have hml : c.maxLocals = 2 := hml0
  have hown : s.vm.findClass zs22 = some m.cls := findClass_of_methodNamed Bd.named
  have hnm := (name_of_methodNamed Bd.named Bd.method).1
  have X0 : Stand p l e ({ frames := 1, cells := 0, slots := 0, locals := 13 } : Room) s m #[(.ref a1), (.ref a2)] below meth c s₁ [] 0 0 := Stand.of_body Bd
  have e0 : s₁.heap = h0 := by rw [← hh, Bd.state]; rfl
  have N0 := Fr.nil n0
  refine own_pre (g' := mkF m 0 (lc16 a1 a2) []) (ef_4 m a1 a2) ?_
  obtain ⟨T5, X5, e5, st5⟩ := getF X0 hx hZ hown (host := "") (Or.inl (ww hw 41 rfl)) Via.refl e0 F4 (g := (mkF m 1 (lc16 a1 a2) [(.ref a1)])) rfl rfl (hb hby d11_1)
  obtain ⟨_, T6, L6, X6, hQ6, st6⟩ := ocallU X5 hx hZ zm8 zm6 hown (ww hw 74 rfl) (ww hw 75 rfl) (ww hw 76 rfl) (by decide) (ww hw 78 rfl) (ww hw 77 rfl) (ww hw 80 rfl) (ww hw 79 rfl) e5 F7 (rm9_14 l Z a0 hw [] a2 p8 h0 n0 Z0 F9) (st := [(.ref a2), (.ref a3)]) rfl 1 rfl (by decide) (pc := 5) (Ls := (lc16 a1 a2)) hml rfl (lenOf pd_3 rfl) d11_5 hby
  obtain ⟨rfl, N6q, e6⟩ := hQ6
  have N10 := Fr.app N0 N6q
  obtain ⟨cl19, Ar19, q19, S19, N19, H19, G19⟩ := id F14
  have hin20 : ¬ (p8 < 0 ∨ cl19.slots.size ≤ (p8).toNatClampNeg) := inb_of S19 ⟨hc15, hc16⟩
  have hat20 : cl19.slots[(p8).toNatClampNeg]? = some (.int 1) := atH H19 hin20 (getH_miss hc15 hc17 (getH_miss hc15 hc17 (getH_hit hc15 hc18)))
  refine own_go (U' := T6.setTop (mkF m 9 (lc16 a1 a2) [(.int 1)])) (fun t k => oaloadN X0 hx hby d11_0 rfl rfl (st5 _ (oaloadN X5 hx hby d11_4 rfl rfl (st6 _ (X6.iaload hx (j := p8) (v := (.int 1)) (own_at e6 Ar19.1) (State.isArrayOf_alike hZ.alike Ar19.2.1) Ar19.2.2 hin20 hat20 (g := (mkF m 8 (lc16 a1 a2) [(.int p8), (.ref a3)])) rfl rfl (hb hby d11_8) _ k))))) ?_
  obtain ⟨fs, hr, hrun, hended, hW, hsame⟩ := X6.leave (v := some (.int 1)) (fun h => by rw [Bd.returns] at h; cases h)
  refine own_out ⟨_, _, ?_, hrun, hended, _, _, rfl, ?_, ⟨_, rfl⟩, hW, hsame.mono (by decide) (by decide)⟩
  · exact retI X6 hx Bd.returns (hb hby d11_9) hr
  · show Q11_51 Z a1 a2 a3 p8 kc11 p12 p13 h0 n0 _ T6.heap _
    rw [e6]
    exact ⟨rfl, N10, rfl⟩
def Q11_52 (Z : State) (a1 a2 a3 : Addr) (p8 : Int32) (kc11 : ClassId) (p12 p13 : Int32) (h0 : Heap) (n0 : Nat) (v : Option Value) (h : Heap) (L : List Loc) : Prop := v = some (.int 0) ∧ Fr n0 L ∧ h = h0
set_option maxRecDepth 65536 in
set_option maxHeartbeats 40000000 in
theorem rm11_52 (l : Launch) (Z : State) (a0 : Array Value) (hw : ∀ d ∈ tables_1, d.before a0 Z = true) (ws : List Jvm.Cond) (a1 a2 a3 : Addr) (p8 : Int32) (kc11 : ClassId) (p12 p13 : Int32) (h0 : Heap) (n0 : Nat) (Z0 : n0 ≤ h0.size) (F4 : Fld Z h0 a1 zs22 "counts" "[I" (.ref a3)) (F7 : Exa Z h0 a2 zs0) (F9 : Fld Z h0 a2 zs26 "ordinal" "I" (.int p8)) (F14 : Arh Z h0 a3 kc11 .int (8 : Int32) [(p12, (.int 0)), (p12, (.int 0)), (p13, (.int 1))] [] (.int (0 : Int32))) (hc15 : ¬ (p8 < (0 : Int32))) (hc16 : p8 < (8 : Int32)) (hc17 : p8 = p12) :
    MetFree l zm10 (head1 (Jvm.Cond.code zm10 prog_30_method_5_code 2 (some .int) :: ws) ({ frames := 1, cells := 0, slots := 0, locals := 13 } : Room)) (fun a U => a = #[(.ref a1), (.ref a2)] ∧ Z.Warmed39 U.vm ∧ U.heap = h0) (fun _ _ _ _ _ => True) (fun _ U o U' => ∃ v L, o = .returned v ∧ Q11_52 Z a1 a2 a3 p8 kc11 p12 p13 h0 n0 v U'.heap L ∧ FrameEnd U o U' L ({ frames := 1, cells := 0, slots := 0, locals := 13 } : Room).cells ({ frames := 1, cells := 0, slots := 0, locals := 13 } : Room).slots) := by
  refine MetFree.of_bodySF (plainFor_of_name pn_5) hisR ?_
  intro p e s m args below meth c s₁ Bd hml0 hP hK
  obtain ⟨rfl, hZ, hh⟩ := hP
  have hx := Bd.exec
  have hby := Bd.bytes
  have hml : c.maxLocals = 2 := hml0
  have hown : s.vm.findClass zs22 = some m.cls := findClass_of_methodNamed Bd.named
  have hnm := (name_of_methodNamed Bd.named Bd.method).1
  have X0 : Stand p l e ({ frames := 1, cells := 0, slots := 0, locals := 13 } : Room) s m #[(.ref a1), (.ref a2)] below meth c s₁ [] 0 0 := Stand.of_body Bd
  have e0 : s₁.heap = h0 := by rw [← hh, Bd.state]; rfl
  have N0 := Fr.nil n0
  refine own_pre (g' := mkF m 0 (lc16 a1 a2) []) (ef_4 m a1 a2) ?_
  obtain ⟨T5, X5, e5, st5⟩ := getF X0 hx hZ hown (host := "") (Or.inl (ww hw 41 rfl)) Via.refl e0 F4 (g := (mkF m 1 (lc16 a1 a2) [(.ref a1)])) rfl rfl (hb hby d11_1)
  obtain ⟨_, T6, L6, X6, hQ6, st6⟩ := ocallU X5 hx hZ zm8 zm6 hown (ww hw 74 rfl) (ww hw 75 rfl) (ww hw 76 rfl) (by decide) (ww hw 78 rfl) (ww hw 77 rfl) (ww hw 80 rfl) (ww hw 79 rfl) e5 F7 (rm9_14 l Z a0 hw [] a2 p8 h0 n0 Z0 F9) (st := [(.ref a2), (.ref a3)]) rfl 1 rfl (by decide) (pc := 5) (Ls := (lc16 a1 a2)) hml rfl (lenOf pd_3 rfl) d11_5 hby
  obtain ⟨rfl, N6q, e6⟩ := hQ6
  have N10 := Fr.app N0 N6q
  obtain ⟨cl18, Ar18, q18, S18, N18, H18, G18⟩ := id F14
  have hin19 : ¬ (p8 < 0 ∨ cl18.slots.size ≤ (p8).toNatClampNeg) := inb_of S18 ⟨hc15, hc16⟩
  have hat19 : cl18.slots[(p8).toNatClampNeg]? = some (.int 0) := atH H18 hin19 (getH_hit hc15 hc17)
  refine own_go (U' := T6.setTop (mkF m 9 (lc16 a1 a2) [(.int 0)])) (fun t k => oaloadN X0 hx hby d11_0 rfl rfl (st5 _ (oaloadN X5 hx hby d11_4 rfl rfl (st6 _ (X6.iaload hx (j := p8) (v := (.int 0)) (own_at e6 Ar18.1) (State.isArrayOf_alike hZ.alike Ar18.2.1) Ar18.2.2 hin19 hat19 (g := (mkF m 8 (lc16 a1 a2) [(.int p8), (.ref a3)])) rfl rfl (hb hby d11_8) _ k))))) ?_
  obtain ⟨fs, hr, hrun, hended, hW, hsame⟩ := X6.leave (v := some (.int 0)) (fun h => by rw [Bd.returns] at h; cases h)
  refine own_out ⟨_, _, ?_, hrun, hended, _, _, rfl, ?_, ⟨_, rfl⟩, hW, hsame.mono (by decide) (by decide)⟩
  · exact retI X6 hx Bd.returns (hb hby d11_9) hr
  · show Q11_52 Z a1 a2 a3 p8 kc11 p12 p13 h0 n0 _ T6.heap _
    rw [e6]
    exact ⟨rfl, N10, rfl⟩
def Q11_53 (Z : State) (a1 a2 a3 : Addr) (p8 : Int32) (kc11 : ClassId) (p12 p13 : Int32) (h0 : Heap) (n0 : Nat) (v : Option Value) (h : Heap) (L : List Loc) : Prop := v = some (.int 0) ∧ Fr n0 L ∧ h = h0
set_option maxRecDepth 65536 in
set_option maxHeartbeats 40000000 in
theorem rm11_53 (l : Launch) (Z : State) (a0 : Array Value) (hw : ∀ d ∈ tables_1, d.before a0 Z = true) (ws : List Jvm.Cond) (a1 a2 a3 : Addr) (p8 : Int32) (kc11 : ClassId) (p12 p13 : Int32) (h0 : Heap) (n0 : Nat) (Z0 : n0 ≤ h0.size) (F4 : Fld Z h0 a1 zs22 "counts" "[I" (.ref a3)) (F7 : Exa Z h0 a2 zs0) (F9 : Fld Z h0 a2 zs26 "ordinal" "I" (.int p8)) (F14 : Arh Z h0 a3 kc11 .int (8 : Int32) [(p12, (.int 0)), (p12, (.int 0)), (p13, (.int 1))] [] (.int (0 : Int32))) (hc15 : ¬ (p8 < (0 : Int32))) (hc16 : p8 < (8 : Int32)) (hc17 : ¬ (p8 = p12)) (hc18 : ¬ (p8 = p13)) :
    MetFree l zm10 (head1 (Jvm.Cond.code zm10 prog_30_method_5_code 2 (some .int) :: ws) ({ frames := 1, cells := 0, slots := 0, locals := 13 } : Room)) (fun a U => a = #[(.ref a1), (.ref a2)] ∧ Z.Warmed39 U.vm ∧ U.heap = h0) (fun _ _ _ _ _ => True) (fun _ U o U' => ∃ v L, o = .returned v ∧ Q11_53 Z a1 a2 a3 p8 kc11 p12 p13 h0 n0 v U'.heap L ∧ FrameEnd U o U' L ({ frames := 1, cells := 0, slots := 0, locals := 13 } : Room).cells ({ frames := 1, cells := 0, slots := 0, locals := 13 } : Room).slots) := by
  refine MetFree.of_bodySF (plainFor_of_name pn_5) hisR ?_
  intro p e s m args below meth c s₁ Bd hml0 hP hK
  obtain ⟨rfl, hZ, hh⟩ := hP
  have hx := Bd.exec
  have hby := Bd.bytes
  have hml : c.maxLocals = 2 := hml0
  have hown : s.vm.findClass zs22 = some m.cls := findClass_of_methodNamed Bd.named
  have hnm := (name_of_methodNamed Bd.named Bd.method).1
  have X0 : Stand p l e ({ frames := 1, cells := 0, slots := 0, locals := 13 } : Room) s m #[(.ref a1), (.ref a2)] below meth c s₁ [] 0 0 := Stand.of_body Bd
  have e0 : s₁.heap = h0 := by rw [← hh, Bd.state]; rfl
  have N0 := Fr.nil n0
  refine own_pre (g' := mkF m 0 (lc16 a1 a2) []) (ef_4 m a1 a2) ?_
  obtain ⟨T5, X5, e5, st5⟩ := getF X0 hx hZ hown (host := "") (Or.inl (ww hw 41 rfl)) Via.refl e0 F4 (g := (mkF m 1 (lc16 a1 a2) [(.ref a1)])) rfl rfl (hb hby d11_1)
  obtain ⟨_, T6, L6, X6, hQ6, st6⟩ := ocallU X5 hx hZ zm8 zm6 hown (ww hw 74 rfl) (ww hw 75 rfl) (ww hw 76 rfl) (by decide) (ww hw 78 rfl) (ww hw 77 rfl) (ww hw 80 rfl) (ww hw 79 rfl) e5 F7 (rm9_14 l Z a0 hw [] a2 p8 h0 n0 Z0 F9) (st := [(.ref a2), (.ref a3)]) rfl 1 rfl (by decide) (pc := 5) (Ls := (lc16 a1 a2)) hml rfl (lenOf pd_3 rfl) d11_5 hby
  obtain ⟨rfl, N6q, e6⟩ := hQ6
  have N10 := Fr.app N0 N6q
  obtain ⟨cl19, Ar19, q19, S19, N19, H19, G19⟩ := id F14
  have hin20 : ¬ (p8 < 0 ∨ cl19.slots.size ≤ (p8).toNatClampNeg) := inb_of S19 ⟨hc15, hc16⟩
  have hat20 : cl19.slots[(p8).toNatClampNeg]? = some (.int 0) := atH H19 hin20 (getH_miss hc15 hc17 (getH_miss hc15 hc17 (getH_miss hc15 hc18 rfl)))
  refine own_go (U' := T6.setTop (mkF m 9 (lc16 a1 a2) [(.int 0)])) (fun t k => oaloadN X0 hx hby d11_0 rfl rfl (st5 _ (oaloadN X5 hx hby d11_4 rfl rfl (st6 _ (X6.iaload hx (j := p8) (v := (.int 0)) (own_at e6 Ar19.1) (State.isArrayOf_alike hZ.alike Ar19.2.1) Ar19.2.2 hin20 hat20 (g := (mkF m 8 (lc16 a1 a2) [(.int p8), (.ref a3)])) rfl rfl (hb hby d11_8) _ k))))) ?_
  obtain ⟨fs, hr, hrun, hended, hW, hsame⟩ := X6.leave (v := some (.int 0)) (fun h => by rw [Bd.returns] at h; cases h)
  refine own_out ⟨_, _, ?_, hrun, hended, _, _, rfl, ?_, ⟨_, rfl⟩, hW, hsame.mono (by decide) (by decide)⟩
  · exact retI X6 hx Bd.returns (hb hby d11_9) hr
  · show Q11_53 Z a1 a2 a3 p8 kc11 p12 p13 h0 n0 _ T6.heap _
    rw [e6]
    exact ⟨rfl, N10, rfl⟩
def Q8_54 (Z : State) (a1 a2 a3 : Addr) (p8 : Int32) (kc11 : ClassId) (p12 : Int32) (h0 : Heap) (n0 : Nat) (v : Option Value) (h : Heap) (L : List Loc) : Prop := v = none ∧ Fr n0 L ∧ Keep h0 h [a3] ∧ Arh Z h a3 kc11 .int (8 : Int32) [(p8, (.int 2)), (p8, (.int 1)), (p12, (.int 1))] [] (.int (0 : Int32))
set_option maxRecDepth 65536 in
set_option maxHeartbeats 40000000 in
theorem rm8_54 (l : Launch) (Z : State) (a0 : Array Value) (hw : ∀ d ∈ tables_1, d.before a0 Z = true) (ws : List Jvm.Cond) (a1 a2 a3 : Addr) (p8 : Int32) (kc11 : ClassId) (p12 : Int32) (h0 : Heap) (n0 : Nat) (Z0 : n0 ≤ h0.size) (F4 : Fld Z h0 a1 zs22 "counts" "[I" (.ref a3)) (F7 : Exa Z h0 a2 zs0) (F9 : Fld Z h0 a2 zs26 "ordinal" "I" (.int p8)) (F13 : Arh Z h0 a3 kc11 .int (8 : Int32) [(p8, (.int 1)), (p12, (.int 1))] [] (.int (0 : Int32))) (hc14 : ¬ (p8 < (0 : Int32))) (hc15 : p8 < (8 : Int32)) (g20 : n0 ≤ a3) :
    MetFree l zm7 (head1 (Jvm.Cond.code zm7 prog_30_method_2_code 3 none :: ws) ({ frames := 1, cells := 0, slots := 0, locals := 13 } : Room)) (fun a U => a = #[(.ref a1), (.ref a2), (.int 1)] ∧ Z.Warmed39 U.vm ∧ U.heap = h0) (fun _ _ _ _ _ => True) (fun _ U o U' => ∃ v L, o = .returned v ∧ Q8_54 Z a1 a2 a3 p8 kc11 p12 h0 n0 v U'.heap L ∧ FrameEnd U o U' L ({ frames := 1, cells := 0, slots := 0, locals := 13 } : Room).cells ({ frames := 1, cells := 0, slots := 0, locals := 13 } : Room).slots) := by
  refine MetFree.of_bodySF (plainFor_of_name pn_5) hisR ?_
  intro p e s m args below meth c s₁ Bd hml0 hP hK
  obtain ⟨rfl, hZ, hh⟩ := hP
  have hx := Bd.exec
  have hby := Bd.bytes
  have hml : c.maxLocals = 3 := hml0
  have hown : s.vm.findClass zs22 = some m.cls := findClass_of_methodNamed Bd.named
  have hnm := (name_of_methodNamed Bd.named Bd.method).1
  have X0 : Stand p l e ({ frames := 1, cells := 0, slots := 0, locals := 13 } : Room) s m #[(.ref a1), (.ref a2), (.int 1)] below meth c s₁ [] 0 0 := Stand.of_body Bd
  have e0 : s₁.heap = h0 := by rw [← hh, Bd.state]; rfl
  have N0 := Fr.nil n0
  refine own_pre (g' := mkF m 0 (lc13 a1 a2 1) []) (ef_3 m a1 a2 (1 : Int32)) ?_
  obtain ⟨T5, X5, e5, st5⟩ := getF X0 hx hZ hown (host := "") (Or.inl (ww hw 41 rfl)) Via.refl e0 F4 (g := (mkF m 1 (lc13 a1 a2 1) [(.ref a1)])) rfl rfl (hb hby d8_1)
  obtain ⟨_, T6, L6, X6, hQ6, st6⟩ := ocallU X5 hx hZ zm8 zm6 hown (ww hw 74 rfl) (ww hw 75 rfl) (ww hw 76 rfl) (by decide) (ww hw 78 rfl) (ww hw 77 rfl) (ww hw 80 rfl) (ww hw 79 rfl) e5 F7 (rm9_14 l Z a0 hw [] a2 p8 h0 n0 Z0 F9) (st := [(.ref a2), (.ref a3)]) rfl 1 rfl (by decide) (pc := 5) (Ls := (lc13 a1 a2 1)) hml rfl (lenOf pd_3 rfl) d8_5 hby
  obtain ⟨rfl, N6q, e6⟩ := hQ6
  have N10 := Fr.app N0 N6q
  obtain ⟨cl16, Ar16, q16, S16, N16, H16, G16⟩ := id F13
  have hin17 : ¬ (p8 < 0 ∨ cl16.slots.size ≤ (p8).toNatClampNeg) := inb_of S16 ⟨hc14, hc15⟩
  have hat17 : cl16.slots[(p8).toNatClampNeg]? = some (.int 1) := atH H16 hin17 (getH_hit hc14 (rfl : p8 = p8))
  refine own_go (U' := T6.setTop (mkF m 11 (lc13 a1 a2 1) [(.int 1), (.int 1), (.int p8), (.ref a3)])) (fun t k => oaloadN X0 hx hby d8_0 rfl rfl (st5 _ (oaloadN X5 hx hby d8_4 rfl rfl (st6 _ (odup2 X6 hx hby d8_8 rfl rfl (X6.iaload hx (j := p8) (v := (.int 1)) (own_at e6 Ar16.1) (State.isArrayOf_alike hZ.alike Ar16.2.1) Ar16.2.2 hin17 hat17 (g := (mkF m 9 (lc13 a1 a2 1) [(.int p8), (.ref a3), (.int p8), (.ref a3)])) rfl rfl (hb hby d8_9) _ (oiloadN X6 hx hby d8_10 rfl k))))))) ?_
  obtain ⟨cl18, Ar18, q18, S18, N18, H18, G18⟩ := id F13
  have hin19 : ¬ (p8 < 0 ∨ cl18.slots.size ≤ (p8).toNatClampNeg) := inb_of S18 ⟨hc14, hc15⟩
  obtain ⟨T19, h19, X19, e19, W19, st19⟩ := stI X6 hx hZ e6 Ar18 (j := p8) hin19 (g := (mkF m 20 (lc13 a1 a2 1) [(.int 2), (.int p8), (.ref a3)])) rfl rfl (hb hby d8_20)
  have N21 := Fr.snoc X19 N10 g20
  have f22 : Arh Z h19 a3 kc11 .int (8 : Int32) [(p8, (.int 2)), (p8, (.int 1)), (p12, (.int 1))] [] (.int (0 : Int32)) := Arh.push Ar18 q18 S18 N18 H18 G18 (by rfl) W19 hin19
  refine own_go (U' := T19.setTop (mkF m 21 (lc13 a1 a2 1) [])) (fun t k => oifN X6 hx hby d8_11 (by decide) (oiconst X6 hx hby d8_14 (ogoto (pc := 15) X6 hx hby d8_15 19 (by decide) (oiadd X6 hx hby d8_19 (st19 _ k))))) ?_
  obtain ⟨fs, hr, hrun, hended, hW, hsame⟩ := X19.leave (v := none) (fun _ => rfl)
  refine own_out ⟨_, _, ?_, hrun, hended, _, _, rfl, ?_, ⟨_, rfl⟩, hW, hsame.mono (by decide) (by decide)⟩
  · exact X19.returnOut hx Bd.returns (hb hby d8_21) hr
  · show Q8_54 Z a1 a2 a3 p8 kc11 p12 h0 n0 _ T19.heap _
    rw [e19]
    exact ⟨rfl, N21, ((Keep.refl h0 [a3]).wr W19 (Or.inl (List.mem_of_getElem? (i := 0) rfl))), f22⟩
def Q11_55 (Z : State) (a1 a2 a3 : Addr) (p8 : Int32) (kc11 : ClassId) (p12 : Int32) (h0 : Heap) (n0 : Nat) (v : Option Value) (h : Heap) (L : List Loc) : Prop := v = some (.int 2) ∧ Fr n0 L ∧ h = h0
set_option maxRecDepth 65536 in
set_option maxHeartbeats 40000000 in
theorem rm11_55 (l : Launch) (Z : State) (a0 : Array Value) (hw : ∀ d ∈ tables_1, d.before a0 Z = true) (ws : List Jvm.Cond) (a1 a2 a3 : Addr) (p8 : Int32) (kc11 : ClassId) (p12 : Int32) (h0 : Heap) (n0 : Nat) (Z0 : n0 ≤ h0.size) (F4 : Fld Z h0 a1 zs22 "counts" "[I" (.ref a3)) (F7 : Exa Z h0 a2 zs0) (F9 : Fld Z h0 a2 zs26 "ordinal" "I" (.int p8)) (F13 : Arh Z h0 a3 kc11 .int (8 : Int32) [(p8, (.int 2)), (p8, (.int 1)), (p12, (.int 1))] [] (.int (0 : Int32))) (hc14 : ¬ (p8 < (0 : Int32))) (hc15 : p8 < (8 : Int32)) :
    MetFree l zm10 (head1 (Jvm.Cond.code zm10 prog_30_method_5_code 2 (some .int) :: ws) ({ frames := 1, cells := 0, slots := 0, locals := 13 } : Room)) (fun a U => a = #[(.ref a1), (.ref a2)] ∧ Z.Warmed39 U.vm ∧ U.heap = h0) (fun _ _ _ _ _ => True) (fun _ U o U' => ∃ v L, o = .returned v ∧ Q11_55 Z a1 a2 a3 p8 kc11 p12 h0 n0 v U'.heap L ∧ FrameEnd U o U' L ({ frames := 1, cells := 0, slots := 0, locals := 13 } : Room).cells ({ frames := 1, cells := 0, slots := 0, locals := 13 } : Room).slots) := by
  refine MetFree.of_bodySF (plainFor_of_name pn_5) hisR ?_
  intro p e s m args below meth c s₁ Bd hml0 hP hK
  obtain ⟨rfl, hZ, hh⟩ := hP
  have hx := Bd.exec
  have hby := Bd.bytes
  have hml : c.maxLocals = 2 := hml0
  have hown : s.vm.findClass zs22 = some m.cls := findClass_of_methodNamed Bd.named
  have hnm := (name_of_methodNamed Bd.named Bd.method).1
  have X0 : Stand p l e ({ frames := 1, cells := 0, slots := 0, locals := 13 } : Room) s m #[(.ref a1), (.ref a2)] below meth c s₁ [] 0 0 := Stand.of_body Bd
  have e0 : s₁.heap = h0 := by rw [← hh, Bd.state]; rfl
  have N0 := Fr.nil n0
  refine own_pre (g' := mkF m 0 (lc16 a1 a2) []) (ef_4 m a1 a2) ?_
  obtain ⟨T5, X5, e5, st5⟩ := getF X0 hx hZ hown (host := "") (Or.inl (ww hw 41 rfl)) Via.refl e0 F4 (g := (mkF m 1 (lc16 a1 a2) [(.ref a1)])) rfl rfl (hb hby d11_1)
  obtain ⟨_, T6, L6, X6, hQ6, st6⟩ := ocallU X5 hx hZ zm8 zm6 hown (ww hw 74 rfl) (ww hw 75 rfl) (ww hw 76 rfl) (by decide) (ww hw 78 rfl) (ww hw 77 rfl) (ww hw 80 rfl) (ww hw 79 rfl) e5 F7 (rm9_14 l Z a0 hw [] a2 p8 h0 n0 Z0 F9) (st := [(.ref a2), (.ref a3)]) rfl 1 rfl (by decide) (pc := 5) (Ls := (lc16 a1 a2)) hml rfl (lenOf pd_3 rfl) d11_5 hby
  obtain ⟨rfl, N6q, e6⟩ := hQ6
  have N10 := Fr.app N0 N6q
  obtain ⟨cl16, Ar16, q16, S16, N16, H16, G16⟩ := id F13
  have hin17 : ¬ (p8 < 0 ∨ cl16.slots.size ≤ (p8).toNatClampNeg) := inb_of S16 ⟨hc14, hc15⟩
  have hat17 : cl16.slots[(p8).toNatClampNeg]? = some (.int 2) := atH H16 hin17 (getH_hit hc14 (rfl : p8 = p8))
  refine own_go (U' := T6.setTop (mkF m 9 (lc16 a1 a2) [(.int 2)])) (fun t k => oaloadN X0 hx hby d11_0 rfl rfl (st5 _ (oaloadN X5 hx hby d11_4 rfl rfl (st6 _ (X6.iaload hx (j := p8) (v := (.int 2)) (own_at e6 Ar16.1) (State.isArrayOf_alike hZ.alike Ar16.2.1) Ar16.2.2 hin17 hat17 (g := (mkF m 8 (lc16 a1 a2) [(.int p8), (.ref a3)])) rfl rfl (hb hby d11_8) _ k))))) ?_
  obtain ⟨fs, hr, hrun, hended, hW, hsame⟩ := X6.leave (v := some (.int 2)) (fun h => by rw [Bd.returns] at h; cases h)
  refine own_out ⟨_, _, ?_, hrun, hended, _, _, rfl, ?_, ⟨_, rfl⟩, hW, hsame.mono (by decide) (by decide)⟩
  · exact retI X6 hx Bd.returns (hb hby d11_9) hr
  · show Q11_55 Z a1 a2 a3 p8 kc11 p12 h0 n0 _ T6.heap _
    rw [e6]
    exact ⟨rfl, N10, rfl⟩
def Q11_56 (Z : State) (a1 a2 a3 : Addr) (p8 : Int32) (kc11 : ClassId) (p12 p13 : Int32) (h0 : Heap) (n0 : Nat) (v : Option Value) (h : Heap) (L : List Loc) : Prop := v = some (.int 2) ∧ Fr n0 L ∧ h = h0
set_option maxRecDepth 65536 in
set_option maxHeartbeats 40000000 in
theorem rm11_56 (l : Launch) (Z : State) (a0 : Array Value) (hw : ∀ d ∈ tables_1, d.before a0 Z = true) (ws : List Jvm.Cond) (a1 a2 a3 : Addr) (p8 : Int32) (kc11 : ClassId) (p12 p13 : Int32) (h0 : Heap) (n0 : Nat) (Z0 : n0 ≤ h0.size) (F4 : Fld Z h0 a1 zs22 "counts" "[I" (.ref a3)) (F7 : Exa Z h0 a2 zs0) (F9 : Fld Z h0 a2 zs26 "ordinal" "I" (.int p8)) (F14 : Arh Z h0 a3 kc11 .int (8 : Int32) [(p12, (.int 2)), (p12, (.int 1)), (p13, (.int 1))] [] (.int (0 : Int32))) (hc15 : ¬ (p8 < (0 : Int32))) (hc16 : p8 < (8 : Int32)) (hc17 : p8 = p12) :
    MetFree l zm10 (head1 (Jvm.Cond.code zm10 prog_30_method_5_code 2 (some .int) :: ws) ({ frames := 1, cells := 0, slots := 0, locals := 13 } : Room)) (fun a U => a = #[(.ref a1), (.ref a2)] ∧ Z.Warmed39 U.vm ∧ U.heap = h0) (fun _ _ _ _ _ => True) (fun _ U o U' => ∃ v L, o = .returned v ∧ Q11_56 Z a1 a2 a3 p8 kc11 p12 p13 h0 n0 v U'.heap L ∧ FrameEnd U o U' L ({ frames := 1, cells := 0, slots := 0, locals := 13 } : Room).cells ({ frames := 1, cells := 0, slots := 0, locals := 13 } : Room).slots) := by
  refine MetFree.of_bodySF (plainFor_of_name pn_5) hisR ?_
  intro p e s m args below meth c s₁ Bd hml0 hP hK
  obtain ⟨rfl, hZ, hh⟩ := hP
  have hx := Bd.exec
  have hby := Bd.bytes
  have hml : c.maxLocals = 2 := hml0
  have hown : s.vm.findClass zs22 = some m.cls := findClass_of_methodNamed Bd.named
  have hnm := (name_of_methodNamed Bd.named Bd.method).1
  have X0 : Stand p l e ({ frames := 1, cells := 0, slots := 0, locals := 13 } : Room) s m #[(.ref a1), (.ref a2)] below meth c s₁ [] 0 0 := Stand.of_body Bd
  have e0 : s₁.heap = h0 := by rw [← hh, Bd.state]; rfl
  have N0 := Fr.nil n0
  refine own_pre (g' := mkF m 0 (lc16 a1 a2) []) (ef_4 m a1 a2) ?_
  obtain ⟨T5, X5, e5, st5⟩ := getF X0 hx hZ hown (host := "") (Or.inl (ww hw 41 rfl)) Via.refl e0 F4 (g := (mkF m 1 (lc16 a1 a2) [(.ref a1)])) rfl rfl (hb hby d11_1)
  obtain ⟨_, T6, L6, X6, hQ6, st6⟩ := ocallU X5 hx hZ zm8 zm6 hown (ww hw 74 rfl) (ww hw 75 rfl) (ww hw 76 rfl) (by decide) (ww hw 78 rfl) (ww hw 77 rfl) (ww hw 80 rfl) (ww hw 79 rfl) e5 F7 (rm9_14 l Z a0 hw [] a2 p8 h0 n0 Z0 F9) (st := [(.ref a2), (.ref a3)]) rfl 1 rfl (by decide) (pc := 5) (Ls := (lc16 a1 a2)) hml rfl (lenOf pd_3 rfl) d11_5 hby
  obtain ⟨rfl, N6q, e6⟩ := hQ6
  have N10 := Fr.app N0 N6q
  obtain ⟨cl18, Ar18, q18, S18, N18, H18, G18⟩ := id F14
  have hin19 : ¬ (p8 < 0 ∨ cl18.slots.size ≤ (p8).toNatClampNeg) := inb_of S18 ⟨hc15, hc16⟩
  have hat19 : cl18.slots[(p8).toNatClampNeg]? = some (.int 2) := atH H18 hin19 (getH_hit hc15 hc17)
  refine own_go (U' := T6.setTop (mkF m 9 (lc16 a1 a2) [(.int 2)])) (fun t k => oaloadN X0 hx hby d11_0 rfl rfl (st5 _ (oaloadN X5 hx hby d11_4 rfl rfl (st6 _ (X6.iaload hx (j := p8) (v := (.int 2)) (own_at e6 Ar18.1) (State.isArrayOf_alike hZ.alike Ar18.2.1) Ar18.2.2 hin19 hat19 (g := (mkF m 8 (lc16 a1 a2) [(.int p8), (.ref a3)])) rfl rfl (hb hby d11_8) _ k))))) ?_
  obtain ⟨fs, hr, hrun, hended, hW, hsame⟩ := X6.leave (v := some (.int 2)) (fun h => by rw [Bd.returns] at h; cases h)
  refine own_out ⟨_, _, ?_, hrun, hended, _, _, rfl, ?_, ⟨_, rfl⟩, hW, hsame.mono (by decide) (by decide)⟩
  · exact retI X6 hx Bd.returns (hb hby d11_9) hr
  · show Q11_56 Z a1 a2 a3 p8 kc11 p12 p13 h0 n0 _ T6.heap _
    rw [e6]
    exact ⟨rfl, N10, rfl⟩
def Q11_57 (Z : State) (a1 a2 a3 : Addr) (p8 : Int32) (kc11 : ClassId) (p12 p13 : Int32) (h0 : Heap) (n0 : Nat) (v : Option Value) (h : Heap) (L : List Loc) : Prop := v = some (.int 0) ∧ Fr n0 L ∧ h = h0
set_option maxRecDepth 65536 in
set_option maxHeartbeats 40000000 in
theorem rm11_57 (l : Launch) (Z : State) (a0 : Array Value) (hw : ∀ d ∈ tables_1, d.before a0 Z = true) (ws : List Jvm.Cond) (a1 a2 a3 : Addr) (p8 : Int32) (kc11 : ClassId) (p12 p13 : Int32) (h0 : Heap) (n0 : Nat) (Z0 : n0 ≤ h0.size) (F4 : Fld Z h0 a1 zs22 "counts" "[I" (.ref a3)) (F7 : Exa Z h0 a2 zs0) (F9 : Fld Z h0 a2 zs26 "ordinal" "I" (.int p8)) (F14 : Arh Z h0 a3 kc11 .int (8 : Int32) [(p12, (.int 2)), (p12, (.int 1)), (p13, (.int 1))] [] (.int (0 : Int32))) (hc15 : ¬ (p8 < (0 : Int32))) (hc16 : p8 < (8 : Int32)) (hc17 : ¬ (p8 = p12)) (hc18 : ¬ (p8 = p13)) :
    MetFree l zm10 (head1 (Jvm.Cond.code zm10 prog_30_method_5_code 2 (some .int) :: ws) ({ frames := 1, cells := 0, slots := 0, locals := 13 } : Room)) (fun a U => a = #[(.ref a1), (.ref a2)] ∧ Z.Warmed39 U.vm ∧ U.heap = h0) (fun _ _ _ _ _ => True) (fun _ U o U' => ∃ v L, o = .returned v ∧ Q11_57 Z a1 a2 a3 p8 kc11 p12 p13 h0 n0 v U'.heap L ∧ FrameEnd U o U' L ({ frames := 1, cells := 0, slots := 0, locals := 13 } : Room).cells ({ frames := 1, cells := 0, slots := 0, locals := 13 } : Room).slots) := by
  refine MetFree.of_bodySF (plainFor_of_name pn_5) hisR ?_
  intro p e s m args below meth c s₁ Bd hml0 hP hK
  obtain ⟨rfl, hZ, hh⟩ := hP
  have hx := Bd.exec
  have hby := Bd.bytes
  have hml : c.maxLocals = 2 := hml0
  have hown : s.vm.findClass zs22 = some m.cls := findClass_of_methodNamed Bd.named
  have hnm := (name_of_methodNamed Bd.named Bd.method).1
  have X0 : Stand p l e ({ frames := 1, cells := 0, slots := 0, locals := 13 } : Room) s m #[(.ref a1), (.ref a2)] below meth c s₁ [] 0 0 := Stand.of_body Bd
  have e0 : s₁.heap = h0 := by rw [← hh, Bd.state]; rfl
  have N0 := Fr.nil n0
  refine own_pre (g' := mkF m 0 (lc16 a1 a2) []) (ef_4 m a1 a2) ?_
  obtain ⟨T5, X5, e5, st5⟩ := getF X0 hx hZ hown (host := "") (Or.inl (ww hw 41 rfl)) Via.refl e0 F4 (g := (mkF m 1 (lc16 a1 a2) [(.ref a1)])) rfl rfl (hb hby d11_1)
  obtain ⟨_, T6, L6, X6, hQ6, st6⟩ := ocallU X5 hx hZ zm8 zm6 hown (ww hw 74 rfl) (ww hw 75 rfl) (ww hw 76 rfl) (by decide) (ww hw 78 rfl) (ww hw 77 rfl) (ww hw 80 rfl) (ww hw 79 rfl) e5 F7 (rm9_14 l Z a0 hw [] a2 p8 h0 n0 Z0 F9) (st := [(.ref a2), (.ref a3)]) rfl 1 rfl (by decide) (pc := 5) (Ls := (lc16 a1 a2)) hml rfl (lenOf pd_3 rfl) d11_5 hby
  obtain ⟨rfl, N6q, e6⟩ := hQ6
  have N10 := Fr.app N0 N6q
  obtain ⟨cl19, Ar19, q19, S19, N19, H19, G19⟩ := id F14
  have hin20 : ¬ (p8 < 0 ∨ cl19.slots.size ≤ (p8).toNatClampNeg) := inb_of S19 ⟨hc15, hc16⟩
  have hat20 : cl19.slots[(p8).toNatClampNeg]? = some (.int 0) := atH H19 hin20 (getH_miss hc15 hc17 (getH_miss hc15 hc17 (getH_miss hc15 hc18 rfl)))
  refine own_go (U' := T6.setTop (mkF m 9 (lc16 a1 a2) [(.int 0)])) (fun t k => oaloadN X0 hx hby d11_0 rfl rfl (st5 _ (oaloadN X5 hx hby d11_4 rfl rfl (st6 _ (X6.iaload hx (j := p8) (v := (.int 0)) (own_at e6 Ar19.1) (State.isArrayOf_alike hZ.alike Ar19.2.1) Ar19.2.2 hin20 hat20 (g := (mkF m 8 (lc16 a1 a2) [(.int p8), (.ref a3)])) rfl rfl (hb hby d11_8) _ k))))) ?_
  obtain ⟨fs, hr, hrun, hended, hW, hsame⟩ := X6.leave (v := some (.int 0)) (fun h => by rw [Bd.returns] at h; cases h)
  refine own_out ⟨_, _, ?_, hrun, hended, _, _, rfl, ?_, ⟨_, rfl⟩, hW, hsame.mono (by decide) (by decide)⟩
  · exact retI X6 hx Bd.returns (hb hby d11_9) hr
  · show Q11_57 Z a1 a2 a3 p8 kc11 p12 p13 h0 n0 _ T6.heap _
    rw [e6]
    exact ⟨rfl, N10, rfl⟩
def Q8_58 (Z : State) (a1 a2 a3 : Addr) (p8 : Int32) (kc11 : ClassId) (p12 : Int32) (h0 : Heap) (n0 : Nat) (v : Option Value) (h : Heap) (L : List Loc) : Prop := v = none ∧ Fr n0 L ∧ Keep h0 h [a3] ∧ Arh Z h a3 kc11 .int (8 : Int32) [(p8, (.int 1)), (p8, (.int 0)), (p12, (.int 1))] [] (.int (0 : Int32))
set_option maxRecDepth 65536 in
set_option maxHeartbeats 40000000 in
theorem rm8_58 (l : Launch) (Z : State) (a0 : Array Value) (hw : ∀ d ∈ tables_1, d.before a0 Z = true) (ws : List Jvm.Cond) (a1 a2 a3 : Addr) (p8 : Int32) (kc11 : ClassId) (p12 : Int32) (h0 : Heap) (n0 : Nat) (Z0 : n0 ≤ h0.size) (F4 : Fld Z h0 a1 zs22 "counts" "[I" (.ref a3)) (F7 : Exa Z h0 a2 zs0) (F9 : Fld Z h0 a2 zs26 "ordinal" "I" (.int p8)) (F13 : Arh Z h0 a3 kc11 .int (8 : Int32) [(p8, (.int 0)), (p12, (.int 1))] [] (.int (0 : Int32))) (hc14 : ¬ (p8 < (0 : Int32))) (hc15 : p8 < (8 : Int32)) (g20 : n0 ≤ a3) :
    MetFree l zm7 (head1 (Jvm.Cond.code zm7 prog_30_method_2_code 3 none :: ws) ({ frames := 1, cells := 0, slots := 0, locals := 13 } : Room)) (fun a U => a = #[(.ref a1), (.ref a2), (.int 1)] ∧ Z.Warmed39 U.vm ∧ U.heap = h0) (fun _ _ _ _ _ => True) (fun _ U o U' => ∃ v L, o = .returned v ∧ Q8_58 Z a1 a2 a3 p8 kc11 p12 h0 n0 v U'.heap L ∧ FrameEnd U o U' L ({ frames := 1, cells := 0, slots := 0, locals := 13 } : Room).cells ({ frames := 1, cells := 0, slots := 0, locals := 13 } : Room).slots) := by
  refine MetFree.of_bodySF (plainFor_of_name pn_5) hisR ?_
  intro p e s m args below meth c s₁ Bd hml0 hP hK
  obtain ⟨rfl, hZ, hh⟩ := hP
  have hx := Bd.exec
  have hby := Bd.bytes
  have hml : c.maxLocals = 3 := hml0
  have hown : s.vm.findClass zs22 = some m.cls := findClass_of_methodNamed Bd.named
  have hnm := (name_of_methodNamed Bd.named Bd.method).1
  have X0 : Stand p l e ({ frames := 1, cells := 0, slots := 0, locals := 13 } : Room) s m #[(.ref a1), (.ref a2), (.int 1)] below meth c s₁ [] 0 0 := Stand.of_body Bd
  have e0 : s₁.heap = h0 := by rw [← hh, Bd.state]; rfl
  have N0 := Fr.nil n0
  refine own_pre (g' := mkF m 0 (lc13 a1 a2 1) []) (ef_3 m a1 a2 (1 : Int32)) ?_
  obtain ⟨T5, X5, e5, st5⟩ := getF X0 hx hZ hown (host := "") (Or.inl (ww hw 41 rfl)) Via.refl e0 F4 (g := (mkF m 1 (lc13 a1 a2 1) [(.ref a1)])) rfl rfl (hb hby d8_1)
  obtain ⟨_, T6, L6, X6, hQ6, st6⟩ := ocallU X5 hx hZ zm8 zm6 hown (ww hw 74 rfl) (ww hw 75 rfl) (ww hw 76 rfl) (by decide) (ww hw 78 rfl) (ww hw 77 rfl) (ww hw 80 rfl) (ww hw 79 rfl) e5 F7 (rm9_14 l Z a0 hw [] a2 p8 h0 n0 Z0 F9) (st := [(.ref a2), (.ref a3)]) rfl 1 rfl (by decide) (pc := 5) (Ls := (lc13 a1 a2 1)) hml rfl (lenOf pd_3 rfl) d8_5 hby
  obtain ⟨rfl, N6q, e6⟩ := hQ6
  have N10 := Fr.app N0 N6q
  obtain ⟨cl16, Ar16, q16, S16, N16, H16, G16⟩ := id F13
  have hin17 : ¬ (p8 < 0 ∨ cl16.slots.size ≤ (p8).toNatClampNeg) := inb_of S16 ⟨hc14, hc15⟩
  have hat17 : cl16.slots[(p8).toNatClampNeg]? = some (.int 0) := atH H16 hin17 (getH_hit hc14 (rfl : p8 = p8))
  refine own_go (U' := T6.setTop (mkF m 11 (lc13 a1 a2 1) [(.int 1), (.int 0), (.int p8), (.ref a3)])) (fun t k => oaloadN X0 hx hby d8_0 rfl rfl (st5 _ (oaloadN X5 hx hby d8_4 rfl rfl (st6 _ (odup2 X6 hx hby d8_8 rfl rfl (X6.iaload hx (j := p8) (v := (.int 0)) (own_at e6 Ar16.1) (State.isArrayOf_alike hZ.alike Ar16.2.1) Ar16.2.2 hin17 hat17 (g := (mkF m 9 (lc13 a1 a2 1) [(.int p8), (.ref a3), (.int p8), (.ref a3)])) rfl rfl (hb hby d8_9) _ (oiloadN X6 hx hby d8_10 rfl k))))))) ?_
  obtain ⟨cl18, Ar18, q18, S18, N18, H18, G18⟩ := id F13
  have hin19 : ¬ (p8 < 0 ∨ cl18.slots.size ≤ (p8).toNatClampNeg) := inb_of S18 ⟨hc14, hc15⟩
  obtain ⟨T19, h19, X19, e19, W19, st19⟩ := stI X6 hx hZ e6 Ar18 (j := p8) hin19 (g := (mkF m 20 (lc13 a1 a2 1) [(.int 1), (.int p8), (.ref a3)])) rfl rfl (hb hby d8_20)
  have N21 := Fr.snoc X19 N10 g20
  have f22 : Arh Z h19 a3 kc11 .int (8 : Int32) [(p8, (.int 1)), (p8, (.int 0)), (p12, (.int 1))] [] (.int (0 : Int32)) := Arh.push Ar18 q18 S18 N18 H18 G18 (by rfl) W19 hin19
  refine own_go (U' := T19.setTop (mkF m 21 (lc13 a1 a2 1) [])) (fun t k => oifN X6 hx hby d8_11 (by decide) (oiconst X6 hx hby d8_14 (ogoto (pc := 15) X6 hx hby d8_15 19 (by decide) (oiadd X6 hx hby d8_19 (st19 _ k))))) ?_
  obtain ⟨fs, hr, hrun, hended, hW, hsame⟩ := X19.leave (v := none) (fun _ => rfl)
  refine own_out ⟨_, _, ?_, hrun, hended, _, _, rfl, ?_, ⟨_, rfl⟩, hW, hsame.mono (by decide) (by decide)⟩
  · exact X19.returnOut hx Bd.returns (hb hby d8_21) hr
  · show Q8_58 Z a1 a2 a3 p8 kc11 p12 h0 n0 _ T19.heap _
    rw [e19]
    exact ⟨rfl, N21, ((Keep.refl h0 [a3]).wr W19 (Or.inl (List.mem_of_getElem? (i := 0) rfl))), f22⟩
def Q11_59 (Z : State) (a1 a2 a3 : Addr) (p8 : Int32) (kc11 : ClassId) (p12 : Int32) (h0 : Heap) (n0 : Nat) (v : Option Value) (h : Heap) (L : List Loc) : Prop := v = some (.int 1) ∧ Fr n0 L ∧ h = h0
set_option maxRecDepth 65536 in
set_option maxHeartbeats 40000000 in
theorem rm11_59 (l : Launch) (Z : State) (a0 : Array Value) (hw : ∀ d ∈ tables_1, d.before a0 Z = true) (ws : List Jvm.Cond) (a1 a2 a3 : Addr) (p8 : Int32) (kc11 : ClassId) (p12 : Int32) (h0 : Heap) (n0 : Nat) (Z0 : n0 ≤ h0.size) (F4 : Fld Z h0 a1 zs22 "counts" "[I" (.ref a3)) (F7 : Exa Z h0 a2 zs0) (F9 : Fld Z h0 a2 zs26 "ordinal" "I" (.int p8)) (F13 : Arh Z h0 a3 kc11 .int (8 : Int32) [(p8, (.int 1)), (p8, (.int 0)), (p12, (.int 1))] [] (.int (0 : Int32))) (hc14 : ¬ (p8 < (0 : Int32))) (hc15 : p8 < (8 : Int32)) :
    MetFree l zm10 (head1 (Jvm.Cond.code zm10 prog_30_method_5_code 2 (some .int) :: ws) ({ frames := 1, cells := 0, slots := 0, locals := 13 } : Room)) (fun a U => a = #[(.ref a1), (.ref a2)] ∧ Z.Warmed39 U.vm ∧ U.heap = h0) (fun _ _ _ _ _ => True) (fun _ U o U' => ∃ v L, o = .returned v ∧ Q11_59 Z a1 a2 a3 p8 kc11 p12 h0 n0 v U'.heap L ∧ FrameEnd U o U' L ({ frames := 1, cells := 0, slots := 0, locals := 13 } : Room).cells ({ frames := 1, cells := 0, slots := 0, locals := 13 } : Room).slots) := by
  refine MetFree.of_bodySF (plainFor_of_name pn_5) hisR ?_
  intro p e s m args below meth c s₁ Bd hml0 hP hK
  obtain ⟨rfl, hZ, hh⟩ := hP
  have hx := Bd.exec
  have hby := Bd.bytes
  have hml : c.maxLocals = 2 := hml0
  have hown : s.vm.findClass zs22 = some m.cls := findClass_of_methodNamed Bd.named
  have hnm := (name_of_methodNamed Bd.named Bd.method).1
  have X0 : Stand p l e ({ frames := 1, cells := 0, slots := 0, locals := 13 } : Room) s m #[(.ref a1), (.ref a2)] below meth c s₁ [] 0 0 := Stand.of_body Bd
  have e0 : s₁.heap = h0 := by rw [← hh, Bd.state]; rfl
  have N0 := Fr.nil n0
  refine own_pre (g' := mkF m 0 (lc16 a1 a2) []) (ef_4 m a1 a2) ?_
  obtain ⟨T5, X5, e5, st5⟩ := getF X0 hx hZ hown (host := "") (Or.inl (ww hw 41 rfl)) Via.refl e0 F4 (g := (mkF m 1 (lc16 a1 a2) [(.ref a1)])) rfl rfl (hb hby d11_1)
  obtain ⟨_, T6, L6, X6, hQ6, st6⟩ := ocallU X5 hx hZ zm8 zm6 hown (ww hw 74 rfl) (ww hw 75 rfl) (ww hw 76 rfl) (by decide) (ww hw 78 rfl) (ww hw 77 rfl) (ww hw 80 rfl) (ww hw 79 rfl) e5 F7 (rm9_14 l Z a0 hw [] a2 p8 h0 n0 Z0 F9) (st := [(.ref a2), (.ref a3)]) rfl 1 rfl (by decide) (pc := 5) (Ls := (lc16 a1 a2)) hml rfl (lenOf pd_3 rfl) d11_5 hby
  obtain ⟨rfl, N6q, e6⟩ := hQ6
  have N10 := Fr.app N0 N6q
  obtain ⟨cl16, Ar16, q16, S16, N16, H16, G16⟩ := id F13
  have hin17 : ¬ (p8 < 0 ∨ cl16.slots.size ≤ (p8).toNatClampNeg) := inb_of S16 ⟨hc14, hc15⟩
  have hat17 : cl16.slots[(p8).toNatClampNeg]? = some (.int 1) := atH H16 hin17 (getH_hit hc14 (rfl : p8 = p8))
  refine own_go (U' := T6.setTop (mkF m 9 (lc16 a1 a2) [(.int 1)])) (fun t k => oaloadN X0 hx hby d11_0 rfl rfl (st5 _ (oaloadN X5 hx hby d11_4 rfl rfl (st6 _ (X6.iaload hx (j := p8) (v := (.int 1)) (own_at e6 Ar16.1) (State.isArrayOf_alike hZ.alike Ar16.2.1) Ar16.2.2 hin17 hat17 (g := (mkF m 8 (lc16 a1 a2) [(.int p8), (.ref a3)])) rfl rfl (hb hby d11_8) _ k))))) ?_
  obtain ⟨fs, hr, hrun, hended, hW, hsame⟩ := X6.leave (v := some (.int 1)) (fun h => by rw [Bd.returns] at h; cases h)
  refine own_out ⟨_, _, ?_, hrun, hended, _, _, rfl, ?_, ⟨_, rfl⟩, hW, hsame.mono (by decide) (by decide)⟩
  · exact retI X6 hx Bd.returns (hb hby d11_9) hr
  · show Q11_59 Z a1 a2 a3 p8 kc11 p12 h0 n0 _ T6.heap _
    rw [e6]
    exact ⟨rfl, N10, rfl⟩
def Q11_60 (Z : State) (a1 a2 a3 : Addr) (p8 : Int32) (kc11 : ClassId) (p12 p13 : Int32) (h0 : Heap) (n0 : Nat) (v : Option Value) (h : Heap) (L : List Loc) : Prop := v = some (.int 1) ∧ Fr n0 L ∧ h = h0
set_option maxRecDepth 65536 in
set_option maxHeartbeats 40000000 in
theorem rm11_60 (l : Launch) (Z : State) (a0 : Array Value) (hw : ∀ d ∈ tables_1, d.before a0 Z = true) (ws : List Jvm.Cond) (a1 a2 a3 : Addr) (p8 : Int32) (kc11 : ClassId) (p12 p13 : Int32) (h0 : Heap) (n0 : Nat) (Z0 : n0 ≤ h0.size) (F4 : Fld Z h0 a1 zs22 "counts" "[I" (.ref a3)) (F7 : Exa Z h0 a2 zs0) (F9 : Fld Z h0 a2 zs26 "ordinal" "I" (.int p8)) (F14 : Arh Z h0 a3 kc11 .int (8 : Int32) [(p12, (.int 1)), (p12, (.int 0)), (p13, (.int 1))] [] (.int (0 : Int32))) (hc15 : ¬ (p8 < (0 : Int32))) (hc16 : p8 < (8 : Int32)) (hc17 : ¬ (p8 = p12)) (hc18 : p8 = p13) :
    MetFree l zm10 (head1 (Jvm.Cond.code zm10 prog_30_method_5_code 2 (some .int) :: ws) ({ frames := 1, cells := 0, slots := 0, locals := 13 } : Room)) (fun a U => a = #[(.ref a1), (.ref a2)] ∧ Z.Warmed39 U.vm ∧ U.heap = h0) (fun _ _ _ _ _ => True) (fun _ U o U' => ∃ v L, o = .returned v ∧ Q11_60 Z a1 a2 a3 p8 kc11 p12 p13 h0 n0 v U'.heap L ∧ FrameEnd U o U' L ({ frames := 1, cells := 0, slots := 0, locals := 13 } : Room).cells ({ frames := 1, cells := 0, slots := 0, locals := 13 } : Room).slots) := by
  refine MetFree.of_bodySF (plainFor_of_name pn_5) hisR ?_
  intro p e s m args below meth c s₁ Bd hml0 hP hK
  obtain ⟨rfl, hZ, hh⟩ := hP
  have hx := Bd.exec
  have hby := Bd.bytes
  have hml : c.maxLocals = 2 := hml0
  have hown : s.vm.findClass zs22 = some m.cls := findClass_of_methodNamed Bd.named
  have hnm := (name_of_methodNamed Bd.named Bd.method).1
  have X0 : Stand p l e ({ frames := 1, cells := 0, slots := 0, locals := 13 } : Room) s m #[(.ref a1), (.ref a2)] below meth c s₁ [] 0 0 := Stand.of_body Bd
  have e0 : s₁.heap = h0 := by rw [← hh, Bd.state]; rfl
  have N0 := Fr.nil n0
  refine own_pre (g' := mkF m 0 (lc16 a1 a2) []) (ef_4 m a1 a2) ?_
  obtain ⟨T5, X5, e5, st5⟩ := getF X0 hx hZ hown (host := "") (Or.inl (ww hw 41 rfl)) Via.refl e0 F4 (g := (mkF m 1 (lc16 a1 a2) [(.ref a1)])) rfl rfl (hb hby d11_1)
  obtain ⟨_, T6, L6, X6, hQ6, st6⟩ := ocallU X5 hx hZ zm8 zm6 hown (ww hw 74 rfl) (ww hw 75 rfl) (ww hw 76 rfl) (by decide) (ww hw 78 rfl) (ww hw 77 rfl) (ww hw 80 rfl) (ww hw 79 rfl) e5 F7 (rm9_14 l Z a0 hw [] a2 p8 h0 n0 Z0 F9) (st := [(.ref a2), (.ref a3)]) rfl 1 rfl (by decide) (pc := 5) (Ls := (lc16 a1 a2)) hml rfl (lenOf pd_3 rfl) d11_5 hby
  obtain ⟨rfl, N6q, e6⟩ := hQ6
  have N10 := Fr.app N0 N6q
  obtain ⟨cl19, Ar19, q19, S19, N19, H19, G19⟩ := id F14
  have hin20 : ¬ (p8 < 0 ∨ cl19.slots.size ≤ (p8).toNatClampNeg) := inb_of S19 ⟨hc15, hc16⟩
  have hat20 : cl19.slots[(p8).toNatClampNeg]? = some (.int 1) := atH H19 hin20 (getH_miss hc15 hc17 (getH_miss hc15 hc17 (getH_hit hc15 hc18)))
  refine own_go (U' := T6.setTop (mkF m 9 (lc16 a1 a2) [(.int 1)])) (fun t k => oaloadN X0 hx hby d11_0 rfl rfl (st5 _ (oaloadN X5 hx hby d11_4 rfl rfl (st6 _ (X6.iaload hx (j := p8) (v := (.int 1)) (own_at e6 Ar19.1) (State.isArrayOf_alike hZ.alike Ar19.2.1) Ar19.2.2 hin20 hat20 (g := (mkF m 8 (lc16 a1 a2) [(.int p8), (.ref a3)])) rfl rfl (hb hby d11_8) _ k))))) ?_
  obtain ⟨fs, hr, hrun, hended, hW, hsame⟩ := X6.leave (v := some (.int 1)) (fun h => by rw [Bd.returns] at h; cases h)
  refine own_out ⟨_, _, ?_, hrun, hended, _, _, rfl, ?_, ⟨_, rfl⟩, hW, hsame.mono (by decide) (by decide)⟩
  · exact retI X6 hx Bd.returns (hb hby d11_9) hr
  · show Q11_60 Z a1 a2 a3 p8 kc11 p12 p13 h0 n0 _ T6.heap _
    rw [e6]
    exact ⟨rfl, N10, rfl⟩
def Q11_61 (Z : State) (a1 a2 a3 : Addr) (p8 : Int32) (kc11 : ClassId) (p12 p13 : Int32) (h0 : Heap) (n0 : Nat) (v : Option Value) (h : Heap) (L : List Loc) : Prop := v = some (.int 1) ∧ Fr n0 L ∧ h = h0
set_option maxRecDepth 65536 in
set_option maxHeartbeats 40000000 in
theorem rm11_61 (l : Launch) (Z : State) (a0 : Array Value) (hw : ∀ d ∈ tables_1, d.before a0 Z = true) (ws : List Jvm.Cond) (a1 a2 a3 : Addr) (p8 : Int32) (kc11 : ClassId) (p12 p13 : Int32) (h0 : Heap) (n0 : Nat) (Z0 : n0 ≤ h0.size) (F4 : Fld Z h0 a1 zs22 "counts" "[I" (.ref a3)) (F7 : Exa Z h0 a2 zs0) (F9 : Fld Z h0 a2 zs26 "ordinal" "I" (.int p8)) (F14 : Arh Z h0 a3 kc11 .int (8 : Int32) [(p12, (.int 1)), (p12, (.int 0)), (p13, (.int 1))] [] (.int (0 : Int32))) (hc15 : ¬ (p8 < (0 : Int32))) (hc16 : p8 < (8 : Int32)) (hc17 : p8 = p12) :
    MetFree l zm10 (head1 (Jvm.Cond.code zm10 prog_30_method_5_code 2 (some .int) :: ws) ({ frames := 1, cells := 0, slots := 0, locals := 13 } : Room)) (fun a U => a = #[(.ref a1), (.ref a2)] ∧ Z.Warmed39 U.vm ∧ U.heap = h0) (fun _ _ _ _ _ => True) (fun _ U o U' => ∃ v L, o = .returned v ∧ Q11_61 Z a1 a2 a3 p8 kc11 p12 p13 h0 n0 v U'.heap L ∧ FrameEnd U o U' L ({ frames := 1, cells := 0, slots := 0, locals := 13 } : Room).cells ({ frames := 1, cells := 0, slots := 0, locals := 13 } : Room).slots) := by
  refine MetFree.of_bodySF (plainFor_of_name pn_5) hisR ?_
  intro p e s m args below meth c s₁ Bd hml0 hP hK
  obtain ⟨rfl, hZ, hh⟩ := hP
  have hx := Bd.exec
  have hby := Bd.bytes
  have hml : c.maxLocals = 2 := hml0
  have hown : s.vm.findClass zs22 = some m.cls := findClass_of_methodNamed Bd.named
  have hnm := (name_of_methodNamed Bd.named Bd.method).1
  have X0 : Stand p l e ({ frames := 1, cells := 0, slots := 0, locals := 13 } : Room) s m #[(.ref a1), (.ref a2)] below meth c s₁ [] 0 0 := Stand.of_body Bd
  have e0 : s₁.heap = h0 := by rw [← hh, Bd.state]; rfl
  have N0 := Fr.nil n0
  refine own_pre (g' := mkF m 0 (lc16 a1 a2) []) (ef_4 m a1 a2) ?_
  obtain ⟨T5, X5, e5, st5⟩ := getF X0 hx hZ hown (host := "") (Or.inl (ww hw 41 rfl)) Via.refl e0 F4 (g := (mkF m 1 (lc16 a1 a2) [(.ref a1)])) rfl rfl (hb hby d11_1)
  obtain ⟨_, T6, L6, X6, hQ6, st6⟩ := ocallU X5 hx hZ zm8 zm6 hown (ww hw 74 rfl) (ww hw 75 rfl) (ww hw 76 rfl) (by decide) (ww hw 78 rfl) (ww hw 77 rfl) (ww hw 80 rfl) (ww hw 79 rfl) e5 F7 (rm9_14 l Z a0 hw [] a2 p8 h0 n0 Z0 F9) (st := [(.ref a2), (.ref a3)]) rfl 1 rfl (by decide) (pc := 5) (Ls := (lc16 a1 a2)) hml rfl (lenOf pd_3 rfl) d11_5 hby
  obtain ⟨rfl, N6q, e6⟩ := hQ6
  have N10 := Fr.app N0 N6q
  obtain ⟨cl18, Ar18, q18, S18, N18, H18, G18⟩ := id F14
  have hin19 : ¬ (p8 < 0 ∨ cl18.slots.size ≤ (p8).toNatClampNeg) := inb_of S18 ⟨hc15, hc16⟩
  have hat19 : cl18.slots[(p8).toNatClampNeg]? = some (.int 1) := atH H18 hin19 (getH_hit hc15 hc17)
  refine own_go (U' := T6.setTop (mkF m 9 (lc16 a1 a2) [(.int 1)])) (fun t k => oaloadN X0 hx hby d11_0 rfl rfl (st5 _ (oaloadN X5 hx hby d11_4 rfl rfl (st6 _ (X6.iaload hx (j := p8) (v := (.int 1)) (own_at e6 Ar18.1) (State.isArrayOf_alike hZ.alike Ar18.2.1) Ar18.2.2 hin19 hat19 (g := (mkF m 8 (lc16 a1 a2) [(.int p8), (.ref a3)])) rfl rfl (hb hby d11_8) _ k))))) ?_
  obtain ⟨fs, hr, hrun, hended, hW, hsame⟩ := X6.leave (v := some (.int 1)) (fun h => by rw [Bd.returns] at h; cases h)
  refine own_out ⟨_, _, ?_, hrun, hended, _, _, rfl, ?_, ⟨_, rfl⟩, hW, hsame.mono (by decide) (by decide)⟩
  · exact retI X6 hx Bd.returns (hb hby d11_9) hr
  · show Q11_61 Z a1 a2 a3 p8 kc11 p12 p13 h0 n0 _ T6.heap _
    rw [e6]
    exact ⟨rfl, N10, rfl⟩
def Q11_62 (Z : State) (a1 a2 a3 : Addr) (p8 : Int32) (kc11 : ClassId) (p12 p13 : Int32) (h0 : Heap) (n0 : Nat) (v : Option Value) (h : Heap) (L : List Loc) : Prop := v = some (.int 0) ∧ Fr n0 L ∧ h = h0
set_option maxRecDepth 65536 in
set_option maxHeartbeats 40000000 in
theorem rm11_62 (l : Launch) (Z : State) (a0 : Array Value) (hw : ∀ d ∈ tables_1, d.before a0 Z = true) (ws : List Jvm.Cond) (a1 a2 a3 : Addr) (p8 : Int32) (kc11 : ClassId) (p12 p13 : Int32) (h0 : Heap) (n0 : Nat) (Z0 : n0 ≤ h0.size) (F4 : Fld Z h0 a1 zs22 "counts" "[I" (.ref a3)) (F7 : Exa Z h0 a2 zs0) (F9 : Fld Z h0 a2 zs26 "ordinal" "I" (.int p8)) (F14 : Arh Z h0 a3 kc11 .int (8 : Int32) [(p12, (.int 1)), (p12, (.int 0)), (p13, (.int 1))] [] (.int (0 : Int32))) (hc15 : ¬ (p8 < (0 : Int32))) (hc16 : p8 < (8 : Int32)) (hc17 : ¬ (p8 = p12)) (hc18 : ¬ (p8 = p13)) :
    MetFree l zm10 (head1 (Jvm.Cond.code zm10 prog_30_method_5_code 2 (some .int) :: ws) ({ frames := 1, cells := 0, slots := 0, locals := 13 } : Room)) (fun a U => a = #[(.ref a1), (.ref a2)] ∧ Z.Warmed39 U.vm ∧ U.heap = h0) (fun _ _ _ _ _ => True) (fun _ U o U' => ∃ v L, o = .returned v ∧ Q11_62 Z a1 a2 a3 p8 kc11 p12 p13 h0 n0 v U'.heap L ∧ FrameEnd U o U' L ({ frames := 1, cells := 0, slots := 0, locals := 13 } : Room).cells ({ frames := 1, cells := 0, slots := 0, locals := 13 } : Room).slots) := by
  refine MetFree.of_bodySF (plainFor_of_name pn_5) hisR ?_
  intro p e s m args below meth c s₁ Bd hml0 hP hK
  obtain ⟨rfl, hZ, hh⟩ := hP
  have hx := Bd.exec
  have hby := Bd.bytes
  have hml : c.maxLocals = 2 := hml0
  have hown : s.vm.findClass zs22 = some m.cls := findClass_of_methodNamed Bd.named
  have hnm := (name_of_methodNamed Bd.named Bd.method).1
  have X0 : Stand p l e ({ frames := 1, cells := 0, slots := 0, locals := 13 } : Room) s m #[(.ref a1), (.ref a2)] below meth c s₁ [] 0 0 := Stand.of_body Bd
  have e0 : s₁.heap = h0 := by rw [← hh, Bd.state]; rfl
  have N0 := Fr.nil n0
  refine own_pre (g' := mkF m 0 (lc16 a1 a2) []) (ef_4 m a1 a2) ?_
  obtain ⟨T5, X5, e5, st5⟩ := getF X0 hx hZ hown (host := "") (Or.inl (ww hw 41 rfl)) Via.refl e0 F4 (g := (mkF m 1 (lc16 a1 a2) [(.ref a1)])) rfl rfl (hb hby d11_1)
  obtain ⟨_, T6, L6, X6, hQ6, st6⟩ := ocallU X5 hx hZ zm8 zm6 hown (ww hw 74 rfl) (ww hw 75 rfl) (ww hw 76 rfl) (by decide) (ww hw 78 rfl) (ww hw 77 rfl) (ww hw 80 rfl) (ww hw 79 rfl) e5 F7 (rm9_14 l Z a0 hw [] a2 p8 h0 n0 Z0 F9) (st := [(.ref a2), (.ref a3)]) rfl 1 rfl (by decide) (pc := 5) (Ls := (lc16 a1 a2)) hml rfl (lenOf pd_3 rfl) d11_5 hby
  obtain ⟨rfl, N6q, e6⟩ := hQ6
  have N10 := Fr.app N0 N6q
  obtain ⟨cl19, Ar19, q19, S19, N19, H19, G19⟩ := id F14
  have hin20 : ¬ (p8 < 0 ∨ cl19.slots.size ≤ (p8).toNatClampNeg) := inb_of S19 ⟨hc15, hc16⟩
  have hat20 : cl19.slots[(p8).toNatClampNeg]? = some (.int 0) := atH H19 hin20 (getH_miss hc15 hc17 (getH_miss hc15 hc17 (getH_miss hc15 hc18 rfl)))
  refine own_go (U' := T6.setTop (mkF m 9 (lc16 a1 a2) [(.int 0)])) (fun t k => oaloadN X0 hx hby d11_0 rfl rfl (st5 _ (oaloadN X5 hx hby d11_4 rfl rfl (st6 _ (X6.iaload hx (j := p8) (v := (.int 0)) (own_at e6 Ar19.1) (State.isArrayOf_alike hZ.alike Ar19.2.1) Ar19.2.2 hin20 hat20 (g := (mkF m 8 (lc16 a1 a2) [(.int p8), (.ref a3)])) rfl rfl (hb hby d11_8) _ k))))) ?_
  obtain ⟨fs, hr, hrun, hended, hW, hsame⟩ := X6.leave (v := some (.int 0)) (fun h => by rw [Bd.returns] at h; cases h)
  refine own_out ⟨_, _, ?_, hrun, hended, _, _, rfl, ?_, ⟨_, rfl⟩, hW, hsame.mono (by decide) (by decide)⟩
  · exact retI X6 hx Bd.returns (hb hby d11_9) hr
  · show Q11_62 Z a1 a2 a3 p8 kc11 p12 p13 h0 n0 _ T6.heap _
    rw [e6]
    exact ⟨rfl, N10, rfl⟩
def Q8_63 (Z : State) (a1 a2 a3 : Addr) (p8 : Int32) (kc11 : ClassId) (p12 : Int32) (h0 : Heap) (n0 : Nat) (v : Option Value) (h : Heap) (L : List Loc) : Prop := v = none ∧ Fr n0 L ∧ Keep h0 h [a3] ∧ Arh Z h a3 kc11 .int (8 : Int32) [(p8, (.int 2)), (p12, (.int 1))] [] (.int (0 : Int32))
set_option maxRecDepth 65536 in
set_option maxHeartbeats 40000000 in
theorem rm8_63 (l : Launch) (Z : State) (a0 : Array Value) (hw : ∀ d ∈ tables_1, d.before a0 Z = true) (ws : List Jvm.Cond) (a1 a2 a3 : Addr) (p8 : Int32) (kc11 : ClassId) (p12 : Int32) (h0 : Heap) (n0 : Nat) (Z0 : n0 ≤ h0.size) (F4 : Fld Z h0 a1 zs22 "counts" "[I" (.ref a3)) (F7 : Exa Z h0 a2 zs0) (F9 : Fld Z h0 a2 zs26 "ordinal" "I" (.int p8)) (F13 : Arh Z h0 a3 kc11 .int (8 : Int32) [(p12, (.int 1))] [] (.int (0 : Int32))) (hc14 : ¬ (p8 < (0 : Int32))) (hc15 : p8 < (8 : Int32)) (hc16 : p8 = p12) (g21 : n0 ≤ a3) :
    MetFree l zm7 (head1 (Jvm.Cond.code zm7 prog_30_method_2_code 3 none :: ws) ({ frames := 1, cells := 0, slots := 0, locals := 13 } : Room)) (fun a U => a = #[(.ref a1), (.ref a2), (.int 1)] ∧ Z.Warmed39 U.vm ∧ U.heap = h0) (fun _ _ _ _ _ => True) (fun _ U o U' => ∃ v L, o = .returned v ∧ Q8_63 Z a1 a2 a3 p8 kc11 p12 h0 n0 v U'.heap L ∧ FrameEnd U o U' L ({ frames := 1, cells := 0, slots := 0, locals := 13 } : Room).cells ({ frames := 1, cells := 0, slots := 0, locals := 13 } : Room).slots) := by
  refine MetFree.of_bodySF (plainFor_of_name pn_5) hisR ?_
  intro p e s m args below meth c s₁ Bd hml0 hP hK
  obtain ⟨rfl, hZ, hh⟩ := hP
  have hx := Bd.exec
  have hby := Bd.bytes
  have hml : c.maxLocals = 3 := hml0
  have hown : s.vm.findClass zs22 = some m.cls := findClass_of_methodNamed Bd.named
  have hnm := (name_of_methodNamed Bd.named Bd.method).1
  have X0 : Stand p l e ({ frames := 1, cells := 0, slots := 0, locals := 13 } : Room) s m #[(.ref a1), (.ref a2), (.int 1)] below meth c s₁ [] 0 0 := Stand.of_body Bd
  have e0 : s₁.heap = h0 := by rw [← hh, Bd.state]; rfl
  have N0 := Fr.nil n0
  refine own_pre (g' := mkF m 0 (lc13 a1 a2 1) []) (ef_3 m a1 a2 (1 : Int32)) ?_
  obtain ⟨T5, X5, e5, st5⟩ := getF X0 hx hZ hown (host := "") (Or.inl (ww hw 41 rfl)) Via.refl e0 F4 (g := (mkF m 1 (lc13 a1 a2 1) [(.ref a1)])) rfl rfl (hb hby d8_1)
  obtain ⟨_, T6, L6, X6, hQ6, st6⟩ := ocallU X5 hx hZ zm8 zm6 hown (ww hw 74 rfl) (ww hw 75 rfl) (ww hw 76 rfl) (by decide) (ww hw 78 rfl) (ww hw 77 rfl) (ww hw 80 rfl) (ww hw 79 rfl) e5 F7 (rm9_14 l Z a0 hw [] a2 p8 h0 n0 Z0 F9) (st := [(.ref a2), (.ref a3)]) rfl 1 rfl (by decide) (pc := 5) (Ls := (lc13 a1 a2 1)) hml rfl (lenOf pd_3 rfl) d8_5 hby
  obtain ⟨rfl, N6q, e6⟩ := hQ6
  have N10 := Fr.app N0 N6q
  obtain ⟨cl17, Ar17, q17, S17, N17, H17, G17⟩ := id F13
  have hin18 : ¬ (p8 < 0 ∨ cl17.slots.size ≤ (p8).toNatClampNeg) := inb_of S17 ⟨hc14, hc15⟩
  have hat18 : cl17.slots[(p8).toNatClampNeg]? = some (.int 1) := atH H17 hin18 (getH_hit hc14 hc16)
  refine own_go (U' := T6.setTop (mkF m 11 (lc13 a1 a2 1) [(.int 1), (.int 1), (.int p8), (.ref a3)])) (fun t k => oaloadN X0 hx hby d8_0 rfl rfl (st5 _ (oaloadN X5 hx hby d8_4 rfl rfl (st6 _ (odup2 X6 hx hby d8_8 rfl rfl (X6.iaload hx (j := p8) (v := (.int 1)) (own_at e6 Ar17.1) (State.isArrayOf_alike hZ.alike Ar17.2.1) Ar17.2.2 hin18 hat18 (g := (mkF m 9 (lc13 a1 a2 1) [(.int p8), (.ref a3), (.int p8), (.ref a3)])) rfl rfl (hb hby d8_9) _ (oiloadN X6 hx hby d8_10 rfl k))))))) ?_
  obtain ⟨cl19, Ar19, q19, S19, N19, H19, G19⟩ := id F13
  have hin20 : ¬ (p8 < 0 ∨ cl19.slots.size ≤ (p8).toNatClampNeg) := inb_of S19 ⟨hc14, hc15⟩
  obtain ⟨T20, h20, X20, e20, W20, st20⟩ := stI X6 hx hZ e6 Ar19 (j := p8) hin20 (g := (mkF m 20 (lc13 a1 a2 1) [(.int 2), (.int p8), (.ref a3)])) rfl rfl (hb hby d8_20)
  have N22 := Fr.snoc X20 N10 g21
  have f23 : Arh Z h20 a3 kc11 .int (8 : Int32) [(p8, (.int 2)), (p12, (.int 1))] [] (.int (0 : Int32)) := Arh.push Ar19 q19 S19 N19 H19 G19 (by rfl) W20 hin20
  refine own_go (U' := T20.setTop (mkF m 21 (lc13 a1 a2 1) [])) (fun t k => oifN X6 hx hby d8_11 (by decide) (oiconst X6 hx hby d8_14 (ogoto (pc := 15) X6 hx hby d8_15 19 (by decide) (oiadd X6 hx hby d8_19 (st20 _ k))))) ?_
  obtain ⟨fs, hr, hrun, hended, hW, hsame⟩ := X20.leave (v := none) (fun _ => rfl)
  refine own_out ⟨_, _, ?_, hrun, hended, _, _, rfl, ?_, ⟨_, rfl⟩, hW, hsame.mono (by decide) (by decide)⟩
  · exact X20.returnOut hx Bd.returns (hb hby d8_21) hr
  · show Q8_63 Z a1 a2 a3 p8 kc11 p12 h0 n0 _ T20.heap _
    rw [e20]
    exact ⟨rfl, N22, ((Keep.refl h0 [a3]).wr W20 (Or.inl (List.mem_of_getElem? (i := 0) rfl))), f23⟩
def Q8_64 (Z : State) (a1 a2 a3 : Addr) (p8 : Int32) (kc11 : ClassId) (p12 : Int32) (h0 : Heap) (n0 : Nat) (v : Option Value) (h : Heap) (L : List Loc) : Prop := v = none ∧ Fr n0 L ∧ Keep h0 h [a3] ∧ Arh Z h a3 kc11 .int (8 : Int32) [(p8, (.int 2)), (p8, (.int 2)), (p12, (.int 1))] [] (.int (0 : Int32))
set_option maxRecDepth 65536 in
set_option maxHeartbeats 40000000 in
theorem rm8_64 (l : Launch) (Z : State) (a0 : Array Value) (hw : ∀ d ∈ tables_1, d.before a0 Z = true) (ws : List Jvm.Cond) (a1 a2 a3 : Addr) (p8 : Int32) (kc11 : ClassId) (p12 : Int32) (h0 : Heap) (n0 : Nat) (Z0 : n0 ≤ h0.size) (F4 : Fld Z h0 a1 zs22 "counts" "[I" (.ref a3)) (F7 : Exa Z h0 a2 zs0) (F9 : Fld Z h0 a2 zs26 "ordinal" "I" (.int p8)) (F13 : Arh Z h0 a3 kc11 .int (8 : Int32) [(p8, (.int 2)), (p12, (.int 1))] [] (.int (0 : Int32))) (hc14 : ¬ (p8 < (0 : Int32))) (hc15 : p8 < (8 : Int32)) (g20 : n0 ≤ a3) :
    MetFree l zm7 (head1 (Jvm.Cond.code zm7 prog_30_method_2_code 3 none :: ws) ({ frames := 1, cells := 0, slots := 0, locals := 13 } : Room)) (fun a U => a = #[(.ref a1), (.ref a2), (.int 0)] ∧ Z.Warmed39 U.vm ∧ U.heap = h0) (fun _ _ _ _ _ => True) (fun _ U o U' => ∃ v L, o = .returned v ∧ Q8_64 Z a1 a2 a3 p8 kc11 p12 h0 n0 v U'.heap L ∧ FrameEnd U o U' L ({ frames := 1, cells := 0, slots := 0, locals := 13 } : Room).cells ({ frames := 1, cells := 0, slots := 0, locals := 13 } : Room).slots) := by
  refine MetFree.of_bodySF (plainFor_of_name pn_5) hisR ?_
  intro p e s m args below meth c s₁ Bd hml0 hP hK
  obtain ⟨rfl, hZ, hh⟩ := hP
  have hx := Bd.exec
  have hby := Bd.bytes
  have hml : c.maxLocals = 3 := hml0
  have hown : s.vm.findClass zs22 = some m.cls := findClass_of_methodNamed Bd.named
  have hnm := (name_of_methodNamed Bd.named Bd.method).1
  have X0 : Stand p l e ({ frames := 1, cells := 0, slots := 0, locals := 13 } : Room) s m #[(.ref a1), (.ref a2), (.int 0)] below meth c s₁ [] 0 0 := Stand.of_body Bd
  have e0 : s₁.heap = h0 := by rw [← hh, Bd.state]; rfl
  have N0 := Fr.nil n0
  refine own_pre (g' := mkF m 0 (lc13 a1 a2 0) []) (ef_3 m a1 a2 (0 : Int32)) ?_
  obtain ⟨T5, X5, e5, st5⟩ := getF X0 hx hZ hown (host := "") (Or.inl (ww hw 41 rfl)) Via.refl e0 F4 (g := (mkF m 1 (lc13 a1 a2 0) [(.ref a1)])) rfl rfl (hb hby d8_1)
  obtain ⟨_, T6, L6, X6, hQ6, st6⟩ := ocallU X5 hx hZ zm8 zm6 hown (ww hw 74 rfl) (ww hw 75 rfl) (ww hw 76 rfl) (by decide) (ww hw 78 rfl) (ww hw 77 rfl) (ww hw 80 rfl) (ww hw 79 rfl) e5 F7 (rm9_14 l Z a0 hw [] a2 p8 h0 n0 Z0 F9) (st := [(.ref a2), (.ref a3)]) rfl 1 rfl (by decide) (pc := 5) (Ls := (lc13 a1 a2 0)) hml rfl (lenOf pd_3 rfl) d8_5 hby
  obtain ⟨rfl, N6q, e6⟩ := hQ6
  have N10 := Fr.app N0 N6q
  obtain ⟨cl16, Ar16, q16, S16, N16, H16, G16⟩ := id F13
  have hin17 : ¬ (p8 < 0 ∨ cl16.slots.size ≤ (p8).toNatClampNeg) := inb_of S16 ⟨hc14, hc15⟩
  have hat17 : cl16.slots[(p8).toNatClampNeg]? = some (.int 2) := atH H16 hin17 (getH_hit hc14 (rfl : p8 = p8))
  refine own_go (U' := T6.setTop (mkF m 11 (lc13 a1 a2 0) [(.int 0), (.int 2), (.int p8), (.ref a3)])) (fun t k => oaloadN X0 hx hby d8_0 rfl rfl (st5 _ (oaloadN X5 hx hby d8_4 rfl rfl (st6 _ (odup2 X6 hx hby d8_8 rfl rfl (X6.iaload hx (j := p8) (v := (.int 2)) (own_at e6 Ar16.1) (State.isArrayOf_alike hZ.alike Ar16.2.1) Ar16.2.2 hin17 hat17 (g := (mkF m 9 (lc13 a1 a2 0) [(.int p8), (.ref a3), (.int p8), (.ref a3)])) rfl rfl (hb hby d8_9) _ (oiloadN X6 hx hby d8_10 rfl k))))))) ?_
  obtain ⟨cl18, Ar18, q18, S18, N18, H18, G18⟩ := id F13
  have hin19 : ¬ (p8 < 0 ∨ cl18.slots.size ≤ (p8).toNatClampNeg) := inb_of S18 ⟨hc14, hc15⟩
  obtain ⟨T19, h19, X19, e19, W19, st19⟩ := stI X6 hx hZ e6 Ar18 (j := p8) hin19 (g := (mkF m 20 (lc13 a1 a2 0) [(.int 2), (.int p8), (.ref a3)])) rfl rfl (hb hby d8_20)
  have N21 := Fr.snoc X19 N10 g20
  have f22 : Arh Z h19 a3 kc11 .int (8 : Int32) [(p8, (.int 2)), (p8, (.int 2)), (p12, (.int 1))] [] (.int (0 : Int32)) := Arh.push Ar18 q18 S18 N18 H18 G18 (by rfl) W19 hin19
  refine own_go (U' := T19.setTop (mkF m 21 (lc13 a1 a2 0) [])) (fun t k => oifY (pc := 11) X6 hx hby d8_11 18 (by decide) (by decide) (oiconst X6 hx hby d8_18 (oiadd X6 hx hby d8_19 (st19 _ k)))) ?_
  obtain ⟨fs, hr, hrun, hended, hW, hsame⟩ := X19.leave (v := none) (fun _ => rfl)
  refine own_out ⟨_, _, ?_, hrun, hended, _, _, rfl, ?_, ⟨_, rfl⟩, hW, hsame.mono (by decide) (by decide)⟩
  · exact X19.returnOut hx Bd.returns (hb hby d8_21) hr
  · show Q8_64 Z a1 a2 a3 p8 kc11 p12 h0 n0 _ T19.heap _
    rw [e19]
    exact ⟨rfl, N21, ((Keep.refl h0 [a3]).wr W19 (Or.inl (List.mem_of_getElem? (i := 0) rfl))), f22⟩
def Q11_65 (Z : State) (a1 a2 a3 : Addr) (p8 : Int32) (kc11 : ClassId) (p12 : Int32) (h0 : Heap) (n0 : Nat) (v : Option Value) (h : Heap) (L : List Loc) : Prop := v = some (.int 2) ∧ Fr n0 L ∧ h = h0
set_option maxRecDepth 65536 in
set_option maxHeartbeats 40000000 in
theorem rm11_65 (l : Launch) (Z : State) (a0 : Array Value) (hw : ∀ d ∈ tables_1, d.before a0 Z = true) (ws : List Jvm.Cond) (a1 a2 a3 : Addr) (p8 : Int32) (kc11 : ClassId) (p12 : Int32) (h0 : Heap) (n0 : Nat) (Z0 : n0 ≤ h0.size) (F4 : Fld Z h0 a1 zs22 "counts" "[I" (.ref a3)) (F7 : Exa Z h0 a2 zs0) (F9 : Fld Z h0 a2 zs26 "ordinal" "I" (.int p8)) (F13 : Arh Z h0 a3 kc11 .int (8 : Int32) [(p8, (.int 2)), (p8, (.int 2)), (p12, (.int 1))] [] (.int (0 : Int32))) (hc14 : ¬ (p8 < (0 : Int32))) (hc15 : p8 < (8 : Int32)) :
    MetFree l zm10 (head1 (Jvm.Cond.code zm10 prog_30_method_5_code 2 (some .int) :: ws) ({ frames := 1, cells := 0, slots := 0, locals := 13 } : Room)) (fun a U => a = #[(.ref a1), (.ref a2)] ∧ Z.Warmed39 U.vm ∧ U.heap = h0) (fun _ _ _ _ _ => True) (fun _ U o U' => ∃ v L, o = .returned v ∧ Q11_65 Z a1 a2 a3 p8 kc11 p12 h0 n0 v U'.heap L ∧ FrameEnd U o U' L ({ frames := 1, cells := 0, slots := 0, locals := 13 } : Room).cells ({ frames := 1, cells := 0, slots := 0, locals := 13 } : Room).slots) := by
  refine MetFree.of_bodySF (plainFor_of_name pn_5) hisR ?_
  intro p e s m args below meth c s₁ Bd hml0 hP hK
  obtain ⟨rfl, hZ, hh⟩ := hP
  have hx := Bd.exec
  have hby := Bd.bytes
  have hml : c.maxLocals = 2 := hml0
  have hown : s.vm.findClass zs22 = some m.cls := findClass_of_methodNamed Bd.named
  have hnm := (name_of_methodNamed Bd.named Bd.method).1
  have X0 : Stand p l e ({ frames := 1, cells := 0, slots := 0, locals := 13 } : Room) s m #[(.ref a1), (.ref a2)] below meth c s₁ [] 0 0 := Stand.of_body Bd
  have e0 : s₁.heap = h0 := by rw [← hh, Bd.state]; rfl
  have N0 := Fr.nil n0
  refine own_pre (g' := mkF m 0 (lc16 a1 a2) []) (ef_4 m a1 a2) ?_
  obtain ⟨T5, X5, e5, st5⟩ := getF X0 hx hZ hown (host := "") (Or.inl (ww hw 41 rfl)) Via.refl e0 F4 (g := (mkF m 1 (lc16 a1 a2) [(.ref a1)])) rfl rfl (hb hby d11_1)
  obtain ⟨_, T6, L6, X6, hQ6, st6⟩ := ocallU X5 hx hZ zm8 zm6 hown (ww hw 74 rfl) (ww hw 75 rfl) (ww hw 76 rfl) (by decide) (ww hw 78 rfl) (ww hw 77 rfl) (ww hw 80 rfl) (ww hw 79 rfl) e5 F7 (rm9_14 l Z a0 hw [] a2 p8 h0 n0 Z0 F9) (st := [(.ref a2), (.ref a3)]) rfl 1 rfl (by decide) (pc := 5) (Ls := (lc16 a1 a2)) hml rfl (lenOf pd_3 rfl) d11_5 hby
  obtain ⟨rfl, N6q, e6⟩ := hQ6
  have N10 := Fr.app N0 N6q
  obtain ⟨cl16, Ar16, q16, S16, N16, H16, G16⟩ := id F13
  have hin17 : ¬ (p8 < 0 ∨ cl16.slots.size ≤ (p8).toNatClampNeg) := inb_of S16 ⟨hc14, hc15⟩
  have hat17 : cl16.slots[(p8).toNatClampNeg]? = some (.int 2) := atH H16 hin17 (getH_hit hc14 (rfl : p8 = p8))
  refine own_go (U' := T6.setTop (mkF m 9 (lc16 a1 a2) [(.int 2)])) (fun t k => oaloadN X0 hx hby d11_0 rfl rfl (st5 _ (oaloadN X5 hx hby d11_4 rfl rfl (st6 _ (X6.iaload hx (j := p8) (v := (.int 2)) (own_at e6 Ar16.1) (State.isArrayOf_alike hZ.alike Ar16.2.1) Ar16.2.2 hin17 hat17 (g := (mkF m 8 (lc16 a1 a2) [(.int p8), (.ref a3)])) rfl rfl (hb hby d11_8) _ k))))) ?_
  obtain ⟨fs, hr, hrun, hended, hW, hsame⟩ := X6.leave (v := some (.int 2)) (fun h => by rw [Bd.returns] at h; cases h)
  refine own_out ⟨_, _, ?_, hrun, hended, _, _, rfl, ?_, ⟨_, rfl⟩, hW, hsame.mono (by decide) (by decide)⟩
  · exact retI X6 hx Bd.returns (hb hby d11_9) hr
  · show Q11_65 Z a1 a2 a3 p8 kc11 p12 h0 n0 _ T6.heap _
    rw [e6]
    exact ⟨rfl, N10, rfl⟩
def Q11_66 (Z : State) (a1 a2 a3 : Addr) (p8 : Int32) (kc11 : ClassId) (p12 p13 : Int32) (h0 : Heap) (n0 : Nat) (v : Option Value) (h : Heap) (L : List Loc) : Prop := v = some (.int 2) ∧ Fr n0 L ∧ h = h0
set_option maxRecDepth 65536 in
set_option maxHeartbeats 40000000 in
theorem rm11_66 (l : Launch) (Z : State) (a0 : Array Value) (hw : ∀ d ∈ tables_1, d.before a0 Z = true) (ws : List Jvm.Cond) (a1 a2 a3 : Addr) (p8 : Int32) (kc11 : ClassId) (p12 p13 : Int32) (h0 : Heap) (n0 : Nat) (Z0 : n0 ≤ h0.size) (F4 : Fld Z h0 a1 zs22 "counts" "[I" (.ref a3)) (F7 : Exa Z h0 a2 zs0) (F9 : Fld Z h0 a2 zs26 "ordinal" "I" (.int p8)) (F14 : Arh Z h0 a3 kc11 .int (8 : Int32) [(p12, (.int 2)), (p12, (.int 2)), (p13, (.int 1))] [] (.int (0 : Int32))) (hc15 : ¬ (p8 < (0 : Int32))) (hc16 : p8 < (8 : Int32)) (hc17 : p8 = p12) :
    MetFree l zm10 (head1 (Jvm.Cond.code zm10 prog_30_method_5_code 2 (some .int) :: ws) ({ frames := 1, cells := 0, slots := 0, locals := 13 } : Room)) (fun a U => a = #[(.ref a1), (.ref a2)] ∧ Z.Warmed39 U.vm ∧ U.heap = h0) (fun _ _ _ _ _ => True) (fun _ U o U' => ∃ v L, o = .returned v ∧ Q11_66 Z a1 a2 a3 p8 kc11 p12 p13 h0 n0 v U'.heap L ∧ FrameEnd U o U' L ({ frames := 1, cells := 0, slots := 0, locals := 13 } : Room).cells ({ frames := 1, cells := 0, slots := 0, locals := 13 } : Room).slots) := by
  refine MetFree.of_bodySF (plainFor_of_name pn_5) hisR ?_
  intro p e s m args below meth c s₁ Bd hml0 hP hK
  obtain ⟨rfl, hZ, hh⟩ := hP
  have hx := Bd.exec
  have hby := Bd.bytes
  have hml : c.maxLocals = 2 := hml0
  have hown : s.vm.findClass zs22 = some m.cls := findClass_of_methodNamed Bd.named
  have hnm := (name_of_methodNamed Bd.named Bd.method).1
  have X0 : Stand p l e ({ frames := 1, cells := 0, slots := 0, locals := 13 } : Room) s m #[(.ref a1), (.ref a2)] below meth c s₁ [] 0 0 := Stand.of_body Bd
  have e0 : s₁.heap = h0 := by rw [← hh, Bd.state]; rfl
  have N0 := Fr.nil n0
  refine own_pre (g' := mkF m 0 (lc16 a1 a2) []) (ef_4 m a1 a2) ?_
  obtain ⟨T5, X5, e5, st5⟩ := getF X0 hx hZ hown (host := "") (Or.inl (ww hw 41 rfl)) Via.refl e0 F4 (g := (mkF m 1 (lc16 a1 a2) [(.ref a1)])) rfl rfl (hb hby d11_1)
  obtain ⟨_, T6, L6, X6, hQ6, st6⟩ := ocallU X5 hx hZ zm8 zm6 hown (ww hw 74 rfl) (ww hw 75 rfl) (ww hw 76 rfl) (by decide) (ww hw 78 rfl) (ww hw 77 rfl) (ww hw 80 rfl) (ww hw 79 rfl) e5 F7 (rm9_14 l Z a0 hw [] a2 p8 h0 n0 Z0 F9) (st := [(.ref a2), (.ref a3)]) rfl 1 rfl (by decide) (pc := 5) (Ls := (lc16 a1 a2)) hml rfl (lenOf pd_3 rfl) d11_5 hby
  obtain ⟨rfl, N6q, e6⟩ := hQ6
  have N10 := Fr.app N0 N6q
  obtain ⟨cl18, Ar18, q18, S18, N18, H18, G18⟩ := id F14
  have hin19 : ¬ (p8 < 0 ∨ cl18.slots.size ≤ (p8).toNatClampNeg) := inb_of S18 ⟨hc15, hc16⟩
  have hat19 : cl18.slots[(p8).toNatClampNeg]? = some (.int 2) := atH H18 hin19 (getH_hit hc15 hc17)
  refine own_go (U' := T6.setTop (mkF m 9 (lc16 a1 a2) [(.int 2)])) (fun t k => oaloadN X0 hx hby d11_0 rfl rfl (st5 _ (oaloadN X5 hx hby d11_4 rfl rfl (st6 _ (X6.iaload hx (j := p8) (v := (.int 2)) (own_at e6 Ar18.1) (State.isArrayOf_alike hZ.alike Ar18.2.1) Ar18.2.2 hin19 hat19 (g := (mkF m 8 (lc16 a1 a2) [(.int p8), (.ref a3)])) rfl rfl (hb hby d11_8) _ k))))) ?_
  obtain ⟨fs, hr, hrun, hended, hW, hsame⟩ := X6.leave (v := some (.int 2)) (fun h => by rw [Bd.returns] at h; cases h)
  refine own_out ⟨_, _, ?_, hrun, hended, _, _, rfl, ?_, ⟨_, rfl⟩, hW, hsame.mono (by decide) (by decide)⟩
  · exact retI X6 hx Bd.returns (hb hby d11_9) hr
  · show Q11_66 Z a1 a2 a3 p8 kc11 p12 p13 h0 n0 _ T6.heap _
    rw [e6]
    exact ⟨rfl, N10, rfl⟩
def Q11_67 (Z : State) (a1 a2 a3 : Addr) (p8 : Int32) (kc11 : ClassId) (p12 p13 : Int32) (h0 : Heap) (n0 : Nat) (v : Option Value) (h : Heap) (L : List Loc) : Prop := v = some (.int 0) ∧ Fr n0 L ∧ h = h0
set_option maxRecDepth 65536 in
set_option maxHeartbeats 40000000 in
theorem rm11_67 (l : Launch) (Z : State) (a0 : Array Value) (hw : ∀ d ∈ tables_1, d.before a0 Z = true) (ws : List Jvm.Cond) (a1 a2 a3 : Addr) (p8 : Int32) (kc11 : ClassId) (p12 p13 : Int32) (h0 : Heap) (n0 : Nat) (Z0 : n0 ≤ h0.size) (F4 : Fld Z h0 a1 zs22 "counts" "[I" (.ref a3)) (F7 : Exa Z h0 a2 zs0) (F9 : Fld Z h0 a2 zs26 "ordinal" "I" (.int p8)) (F14 : Arh Z h0 a3 kc11 .int (8 : Int32) [(p12, (.int 2)), (p12, (.int 2)), (p13, (.int 1))] [] (.int (0 : Int32))) (hc15 : ¬ (p8 < (0 : Int32))) (hc16 : p8 < (8 : Int32)) (hc17 : ¬ (p8 = p12)) (hc18 : ¬ (p8 = p13)) :
    MetFree l zm10 (head1 (Jvm.Cond.code zm10 prog_30_method_5_code 2 (some .int) :: ws) ({ frames := 1, cells := 0, slots := 0, locals := 13 } : Room)) (fun a U => a = #[(.ref a1), (.ref a2)] ∧ Z.Warmed39 U.vm ∧ U.heap = h0) (fun _ _ _ _ _ => True) (fun _ U o U' => ∃ v L, o = .returned v ∧ Q11_67 Z a1 a2 a3 p8 kc11 p12 p13 h0 n0 v U'.heap L ∧ FrameEnd U o U' L ({ frames := 1, cells := 0, slots := 0, locals := 13 } : Room).cells ({ frames := 1, cells := 0, slots := 0, locals := 13 } : Room).slots) := by
  refine MetFree.of_bodySF (plainFor_of_name pn_5) hisR ?_
  intro p e s m args below meth c s₁ Bd hml0 hP hK
  obtain ⟨rfl, hZ, hh⟩ := hP
  have hx := Bd.exec
  have hby := Bd.bytes
  have hml : c.maxLocals = 2 := hml0
  have hown : s.vm.findClass zs22 = some m.cls := findClass_of_methodNamed Bd.named
  have hnm := (name_of_methodNamed Bd.named Bd.method).1
  have X0 : Stand p l e ({ frames := 1, cells := 0, slots := 0, locals := 13 } : Room) s m #[(.ref a1), (.ref a2)] below meth c s₁ [] 0 0 := Stand.of_body Bd
  have e0 : s₁.heap = h0 := by rw [← hh, Bd.state]; rfl
  have N0 := Fr.nil n0
  refine own_pre (g' := mkF m 0 (lc16 a1 a2) []) (ef_4 m a1 a2) ?_
  obtain ⟨T5, X5, e5, st5⟩ := getF X0 hx hZ hown (host := "") (Or.inl (ww hw 41 rfl)) Via.refl e0 F4 (g := (mkF m 1 (lc16 a1 a2) [(.ref a1)])) rfl rfl (hb hby d11_1)
  obtain ⟨_, T6, L6, X6, hQ6, st6⟩ := ocallU X5 hx hZ zm8 zm6 hown (ww hw 74 rfl) (ww hw 75 rfl) (ww hw 76 rfl) (by decide) (ww hw 78 rfl) (ww hw 77 rfl) (ww hw 80 rfl) (ww hw 79 rfl) e5 F7 (rm9_14 l Z a0 hw [] a2 p8 h0 n0 Z0 F9) (st := [(.ref a2), (.ref a3)]) rfl 1 rfl (by decide) (pc := 5) (Ls := (lc16 a1 a2)) hml rfl (lenOf pd_3 rfl) d11_5 hby
  obtain ⟨rfl, N6q, e6⟩ := hQ6
  have N10 := Fr.app N0 N6q
  obtain ⟨cl19, Ar19, q19, S19, N19, H19, G19⟩ := id F14
  have hin20 : ¬ (p8 < 0 ∨ cl19.slots.size ≤ (p8).toNatClampNeg) := inb_of S19 ⟨hc15, hc16⟩
  have hat20 : cl19.slots[(p8).toNatClampNeg]? = some (.int 0) := atH H19 hin20 (getH_miss hc15 hc17 (getH_miss hc15 hc17 (getH_miss hc15 hc18 rfl)))
  refine own_go (U' := T6.setTop (mkF m 9 (lc16 a1 a2) [(.int 0)])) (fun t k => oaloadN X0 hx hby d11_0 rfl rfl (st5 _ (oaloadN X5 hx hby d11_4 rfl rfl (st6 _ (X6.iaload hx (j := p8) (v := (.int 0)) (own_at e6 Ar19.1) (State.isArrayOf_alike hZ.alike Ar19.2.1) Ar19.2.2 hin20 hat20 (g := (mkF m 8 (lc16 a1 a2) [(.int p8), (.ref a3)])) rfl rfl (hb hby d11_8) _ k))))) ?_
  obtain ⟨fs, hr, hrun, hended, hW, hsame⟩ := X6.leave (v := some (.int 0)) (fun h => by rw [Bd.returns] at h; cases h)
  refine own_out ⟨_, _, ?_, hrun, hended, _, _, rfl, ?_, ⟨_, rfl⟩, hW, hsame.mono (by decide) (by decide)⟩
  · exact retI X6 hx Bd.returns (hb hby d11_9) hr
  · show Q11_67 Z a1 a2 a3 p8 kc11 p12 p13 h0 n0 _ T6.heap _
    rw [e6]
    exact ⟨rfl, N10, rfl⟩
def Q8_68 (Z : State) (a1 a2 a3 : Addr) (p8 : Int32) (kc11 : ClassId) (p12 : Int32) (h0 : Heap) (n0 : Nat) (v : Option Value) (h : Heap) (L : List Loc) : Prop := v = none ∧ Fr n0 L ∧ Keep h0 h [a3] ∧ Arh Z h a3 kc11 .int (8 : Int32) [(p8, (.int 1)), (p12, (.int 1))] [] (.int (0 : Int32))
set_option maxRecDepth 65536 in
set_option maxHeartbeats 40000000 in
theorem rm8_68 (l : Launch) (Z : State) (a0 : Array Value) (hw : ∀ d ∈ tables_1, d.before a0 Z = true) (ws : List Jvm.Cond) (a1 a2 a3 : Addr) (p8 : Int32) (kc11 : ClassId) (p12 : Int32) (h0 : Heap) (n0 : Nat) (Z0 : n0 ≤ h0.size) (F4 : Fld Z h0 a1 zs22 "counts" "[I" (.ref a3)) (F7 : Exa Z h0 a2 zs0) (F9 : Fld Z h0 a2 zs26 "ordinal" "I" (.int p8)) (F13 : Arh Z h0 a3 kc11 .int (8 : Int32) [(p12, (.int 1))] [] (.int (0 : Int32))) (hc14 : ¬ (p8 < (0 : Int32))) (hc15 : p8 < (8 : Int32)) (hc16 : ¬ (p8 = p12)) (g21 : n0 ≤ a3) :
    MetFree l zm7 (head1 (Jvm.Cond.code zm7 prog_30_method_2_code 3 none :: ws) ({ frames := 1, cells := 0, slots := 0, locals := 13 } : Room)) (fun a U => a = #[(.ref a1), (.ref a2), (.int 1)] ∧ Z.Warmed39 U.vm ∧ U.heap = h0) (fun _ _ _ _ _ => True) (fun _ U o U' => ∃ v L, o = .returned v ∧ Q8_68 Z a1 a2 a3 p8 kc11 p12 h0 n0 v U'.heap L ∧ FrameEnd U o U' L ({ frames := 1, cells := 0, slots := 0, locals := 13 } : Room).cells ({ frames := 1, cells := 0, slots := 0, locals := 13 } : Room).slots) := by
  refine MetFree.of_bodySF (plainFor_of_name pn_5) hisR ?_
  intro p e s m args below meth c s₁ Bd hml0 hP hK
  obtain ⟨rfl, hZ, hh⟩ := hP
  have hx := Bd.exec
  have hby := Bd.bytes
  have hml : c.maxLocals = 3 := hml0
  have hown : s.vm.findClass zs22 = some m.cls := findClass_of_methodNamed Bd.named
  have hnm := (name_of_methodNamed Bd.named Bd.method).1
  have X0 : Stand p l e ({ frames := 1, cells := 0, slots := 0, locals := 13 } : Room) s m #[(.ref a1), (.ref a2), (.int 1)] below meth c s₁ [] 0 0 := Stand.of_body Bd
  have e0 : s₁.heap = h0 := by rw [← hh, Bd.state]; rfl
  have N0 := Fr.nil n0
  refine own_pre (g' := mkF m 0 (lc13 a1 a2 1) []) (ef_3 m a1 a2 (1 : Int32)) ?_
  obtain ⟨T5, X5, e5, st5⟩ := getF X0 hx hZ hown (host := "") (Or.inl (ww hw 41 rfl)) Via.refl e0 F4 (g := (mkF m 1 (lc13 a1 a2 1) [(.ref a1)])) rfl rfl (hb hby d8_1)
  obtain ⟨_, T6, L6, X6, hQ6, st6⟩ := ocallU X5 hx hZ zm8 zm6 hown (ww hw 74 rfl) (ww hw 75 rfl) (ww hw 76 rfl) (by decide) (ww hw 78 rfl) (ww hw 77 rfl) (ww hw 80 rfl) (ww hw 79 rfl) e5 F7 (rm9_14 l Z a0 hw [] a2 p8 h0 n0 Z0 F9) (st := [(.ref a2), (.ref a3)]) rfl 1 rfl (by decide) (pc := 5) (Ls := (lc13 a1 a2 1)) hml rfl (lenOf pd_3 rfl) d8_5 hby
  obtain ⟨rfl, N6q, e6⟩ := hQ6
  have N10 := Fr.app N0 N6q
  obtain ⟨cl17, Ar17, q17, S17, N17, H17, G17⟩ := id F13
  have hin18 : ¬ (p8 < 0 ∨ cl17.slots.size ≤ (p8).toNatClampNeg) := inb_of S17 ⟨hc14, hc15⟩
  have hat18 : cl17.slots[(p8).toNatClampNeg]? = some (.int 0) := atH H17 hin18 (getH_miss hc14 hc16 rfl)
  refine own_go (U' := T6.setTop (mkF m 11 (lc13 a1 a2 1) [(.int 1), (.int 0), (.int p8), (.ref a3)])) (fun t k => oaloadN X0 hx hby d8_0 rfl rfl (st5 _ (oaloadN X5 hx hby d8_4 rfl rfl (st6 _ (odup2 X6 hx hby d8_8 rfl rfl (X6.iaload hx (j := p8) (v := (.int 0)) (own_at e6 Ar17.1) (State.isArrayOf_alike hZ.alike Ar17.2.1) Ar17.2.2 hin18 hat18 (g := (mkF m 9 (lc13 a1 a2 1) [(.int p8), (.ref a3), (.int p8), (.ref a3)])) rfl rfl (hb hby d8_9) _ (oiloadN X6 hx hby d8_10 rfl k))))))) ?_
  obtain ⟨cl19, Ar19, q19, S19, N19, H19, G19⟩ := id F13
  have hin20 : ¬ (p8 < 0 ∨ cl19.slots.size ≤ (p8).toNatClampNeg) := inb_of S19 ⟨hc14, hc15⟩
  obtain ⟨T20, h20, X20, e20, W20, st20⟩ := stI X6 hx hZ e6 Ar19 (j := p8) hin20 (g := (mkF m 20 (lc13 a1 a2 1) [(.int 1), (.int p8), (.ref a3)])) rfl rfl (hb hby d8_20)
  have N22 := Fr.snoc X20 N10 g21
  have f23 : Arh Z h20 a3 kc11 .int (8 : Int32) [(p8, (.int 1)), (p12, (.int 1))] [] (.int (0 : Int32)) := Arh.push Ar19 q19 S19 N19 H19 G19 (by rfl) W20 hin20
  refine own_go (U' := T20.setTop (mkF m 21 (lc13 a1 a2 1) [])) (fun t k => oifN X6 hx hby d8_11 (by decide) (oiconst X6 hx hby d8_14 (ogoto (pc := 15) X6 hx hby d8_15 19 (by decide) (oiadd X6 hx hby d8_19 (st20 _ k))))) ?_
  obtain ⟨fs, hr, hrun, hended, hW, hsame⟩ := X20.leave (v := none) (fun _ => rfl)
  refine own_out ⟨_, _, ?_, hrun, hended, _, _, rfl, ?_, ⟨_, rfl⟩, hW, hsame.mono (by decide) (by decide)⟩
  · exact X20.returnOut hx Bd.returns (hb hby d8_21) hr
  · show Q8_68 Z a1 a2 a3 p8 kc11 p12 h0 n0 _ T20.heap _
    rw [e20]
    exact ⟨rfl, N22, ((Keep.refl h0 [a3]).wr W20 (Or.inl (List.mem_of_getElem? (i := 0) rfl))), f23⟩
def Q11_69 (Z : State) (a1 a2 a3 : Addr) (p8 : Int32) (kc11 : ClassId) (p12 p13 : Int32) (h0 : Heap) (n0 : Nat) (v : Option Value) (h : Heap) (L : List Loc) : Prop := v = some (.int 1) ∧ Fr n0 L ∧ h = h0
set_option maxRecDepth 65536 in
set_option maxHeartbeats 40000000 in
theorem rm11_69 (l : Launch) (Z : State) (a0 : Array Value) (hw : ∀ d ∈ tables_1, d.before a0 Z = true) (ws : List Jvm.Cond) (a1 a2 a3 : Addr) (p8 : Int32) (kc11 : ClassId) (p12 p13 : Int32) (h0 : Heap) (n0 : Nat) (Z0 : n0 ≤ h0.size) (F4 : Fld Z h0 a1 zs22 "counts" "[I" (.ref a3)) (F7 : Exa Z h0 a2 zs0) (F9 : Fld Z h0 a2 zs26 "ordinal" "I" (.int p8)) (F14 : Arh Z h0 a3 kc11 .int (8 : Int32) [(p12, (.int 1)), (p12, (.int 1)), (p13, (.int 1))] [] (.int (0 : Int32))) (hc15 : ¬ (p8 < (0 : Int32))) (hc16 : p8 < (8 : Int32)) (hc17 : ¬ (p8 = p12)) (hc18 : p8 = p13) :
    MetFree l zm10 (head1 (Jvm.Cond.code zm10 prog_30_method_5_code 2 (some .int) :: ws) ({ frames := 1, cells := 0, slots := 0, locals := 13 } : Room)) (fun a U => a = #[(.ref a1), (.ref a2)] ∧ Z.Warmed39 U.vm ∧ U.heap = h0) (fun _ _ _ _ _ => True) (fun _ U o U' => ∃ v L, o = .returned v ∧ Q11_69 Z a1 a2 a3 p8 kc11 p12 p13 h0 n0 v U'.heap L ∧ FrameEnd U o U' L ({ frames := 1, cells := 0, slots := 0, locals := 13 } : Room).cells ({ frames := 1, cells := 0, slots := 0, locals := 13 } : Room).slots) := by
  refine MetFree.of_bodySF (plainFor_of_name pn_5) hisR ?_
  intro p e s m args below meth c s₁ Bd hml0 hP hK
  obtain ⟨rfl, hZ, hh⟩ := hP
  have hx := Bd.exec
  have hby := Bd.bytes
  have hml : c.maxLocals = 2 := hml0
  have hown : s.vm.findClass zs22 = some m.cls := findClass_of_methodNamed Bd.named
  have hnm := (name_of_methodNamed Bd.named Bd.method).1
  have X0 : Stand p l e ({ frames := 1, cells := 0, slots := 0, locals := 13 } : Room) s m #[(.ref a1), (.ref a2)] below meth c s₁ [] 0 0 := Stand.of_body Bd
  have e0 : s₁.heap = h0 := by rw [← hh, Bd.state]; rfl
  have N0 := Fr.nil n0
  refine own_pre (g' := mkF m 0 (lc16 a1 a2) []) (ef_4 m a1 a2) ?_
  obtain ⟨T5, X5, e5, st5⟩ := getF X0 hx hZ hown (host := "") (Or.inl (ww hw 41 rfl)) Via.refl e0 F4 (g := (mkF m 1 (lc16 a1 a2) [(.ref a1)])) rfl rfl (hb hby d11_1)
  obtain ⟨_, T6, L6, X6, hQ6, st6⟩ := ocallU X5 hx hZ zm8 zm6 hown (ww hw 74 rfl) (ww hw 75 rfl) (ww hw 76 rfl) (by decide) (ww hw 78 rfl) (ww hw 77 rfl) (ww hw 80 rfl) (ww hw 79 rfl) e5 F7 (rm9_14 l Z a0 hw [] a2 p8 h0 n0 Z0 F9) (st := [(.ref a2), (.ref a3)]) rfl 1 rfl (by decide) (pc := 5) (Ls := (lc16 a1 a2)) hml rfl (lenOf pd_3 rfl) d11_5 hby
  obtain ⟨rfl, N6q, e6⟩ := hQ6
  have N10 := Fr.app N0 N6q
  obtain ⟨cl19, Ar19, q19, S19, N19, H19, G19⟩ := id F14
  have hin20 : ¬ (p8 < 0 ∨ cl19.slots.size ≤ (p8).toNatClampNeg) := inb_of S19 ⟨hc15, hc16⟩
  have hat20 : cl19.slots[(p8).toNatClampNeg]? = some (.int 1) := atH H19 hin20 (getH_miss hc15 hc17 (getH_miss hc15 hc17 (getH_hit hc15 hc18)))
  refine own_go (U' := T6.setTop (mkF m 9 (lc16 a1 a2) [(.int 1)])) (fun t k => oaloadN X0 hx hby d11_0 rfl rfl (st5 _ (oaloadN X5 hx hby d11_4 rfl rfl (st6 _ (X6.iaload hx (j := p8) (v := (.int 1)) (own_at e6 Ar19.1) (State.isArrayOf_alike hZ.alike Ar19.2.1) Ar19.2.2 hin20 hat20 (g := (mkF m 8 (lc16 a1 a2) [(.int p8), (.ref a3)])) rfl rfl (hb hby d11_8) _ k))))) ?_
  obtain ⟨fs, hr, hrun, hended, hW, hsame⟩ := X6.leave (v := some (.int 1)) (fun h => by rw [Bd.returns] at h; cases h)
  refine own_out ⟨_, _, ?_, hrun, hended, _, _, rfl, ?_, ⟨_, rfl⟩, hW, hsame.mono (by decide) (by decide)⟩
  · exact retI X6 hx Bd.returns (hb hby d11_9) hr
  · show Q11_69 Z a1 a2 a3 p8 kc11 p12 p13 h0 n0 _ T6.heap _
    rw [e6]
    exact ⟨rfl, N10, rfl⟩
def Q8_70 (Z : State) (a1 a2 a3 : Addr) (p8 : Int32) (kc11 : ClassId) (p12 : Int32) (h0 : Heap) (n0 : Nat) (v : Option Value) (h : Heap) (L : List Loc) : Prop := v = none ∧ Fr n0 L ∧ Keep h0 h [a3] ∧ Arh Z h a3 kc11 .int (8 : Int32) [(p8, (.int 3)), (p8, (.int 2)), (p12, (.int 1))] [] (.int (0 : Int32))
set_option maxRecDepth 65536 in
set_option maxHeartbeats 40000000 in
theorem rm8_70 (l : Launch) (Z : State) (a0 : Array Value) (hw : ∀ d ∈ tables_1, d.before a0 Z = true) (ws : List Jvm.Cond) (a1 a2 a3 : Addr) (p8 : Int32) (kc11 : ClassId) (p12 : Int32) (h0 : Heap) (n0 : Nat) (Z0 : n0 ≤ h0.size) (F4 : Fld Z h0 a1 zs22 "counts" "[I" (.ref a3)) (F7 : Exa Z h0 a2 zs0) (F9 : Fld Z h0 a2 zs26 "ordinal" "I" (.int p8)) (F13 : Arh Z h0 a3 kc11 .int (8 : Int32) [(p8, (.int 2)), (p12, (.int 1))] [] (.int (0 : Int32))) (hc14 : ¬ (p8 < (0 : Int32))) (hc15 : p8 < (8 : Int32)) (g20 : n0 ≤ a3) :
    MetFree l zm7 (head1 (Jvm.Cond.code zm7 prog_30_method_2_code 3 none :: ws) ({ frames := 1, cells := 0, slots := 0, locals := 13 } : Room)) (fun a U => a = #[(.ref a1), (.ref a2), (.int 1)] ∧ Z.Warmed39 U.vm ∧ U.heap = h0) (fun _ _ _ _ _ => True) (fun _ U o U' => ∃ v L, o = .returned v ∧ Q8_70 Z a1 a2 a3 p8 kc11 p12 h0 n0 v U'.heap L ∧ FrameEnd U o U' L ({ frames := 1, cells := 0, slots := 0, locals := 13 } : Room).cells ({ frames := 1, cells := 0, slots := 0, locals := 13 } : Room).slots) := by
  refine MetFree.of_bodySF (plainFor_of_name pn_5) hisR ?_
  intro p e s m args below meth c s₁ Bd hml0 hP hK
  obtain ⟨rfl, hZ, hh⟩ := hP
  have hx := Bd.exec
  have hby := Bd.bytes
  have hml : c.maxLocals = 3 := hml0
  have hown : s.vm.findClass zs22 = some m.cls := findClass_of_methodNamed Bd.named
  have hnm := (name_of_methodNamed Bd.named Bd.method).1
  have X0 : Stand p l e ({ frames := 1, cells := 0, slots := 0, locals := 13 } : Room) s m #[(.ref a1), (.ref a2), (.int 1)] below meth c s₁ [] 0 0 := Stand.of_body Bd
  have e0 : s₁.heap = h0 := by rw [← hh, Bd.state]; rfl
  have N0 := Fr.nil n0
  refine own_pre (g' := mkF m 0 (lc13 a1 a2 1) []) (ef_3 m a1 a2 (1 : Int32)) ?_
  obtain ⟨T5, X5, e5, st5⟩ := getF X0 hx hZ hown (host := "") (Or.inl (ww hw 41 rfl)) Via.refl e0 F4 (g := (mkF m 1 (lc13 a1 a2 1) [(.ref a1)])) rfl rfl (hb hby d8_1)
  obtain ⟨_, T6, L6, X6, hQ6, st6⟩ := ocallU X5 hx hZ zm8 zm6 hown (ww hw 74 rfl) (ww hw 75 rfl) (ww hw 76 rfl) (by decide) (ww hw 78 rfl) (ww hw 77 rfl) (ww hw 80 rfl) (ww hw 79 rfl) e5 F7 (rm9_14 l Z a0 hw [] a2 p8 h0 n0 Z0 F9) (st := [(.ref a2), (.ref a3)]) rfl 1 rfl (by decide) (pc := 5) (Ls := (lc13 a1 a2 1)) hml rfl (lenOf pd_3 rfl) d8_5 hby
  obtain ⟨rfl, N6q, e6⟩ := hQ6
  have N10 := Fr.app N0 N6q
  obtain ⟨cl16, Ar16, q16, S16, N16, H16, G16⟩ := id F13
  have hin17 : ¬ (p8 < 0 ∨ cl16.slots.size ≤ (p8).toNatClampNeg) := inb_of S16 ⟨hc14, hc15⟩
  have hat17 : cl16.slots[(p8).toNatClampNeg]? = some (.int 2) := atH H16 hin17 (getH_hit hc14 (rfl : p8 = p8))
  refine own_go (U' := T6.setTop (mkF m 11 (lc13 a1 a2 1) [(.int 1), (.int 2), (.int p8), (.ref a3)])) (fun t k => oaloadN X0 hx hby d8_0 rfl rfl (st5 _ (oaloadN X5 hx hby d8_4 rfl rfl (st6 _ (odup2 X6 hx hby d8_8 rfl rfl (X6.iaload hx (j := p8) (v := (.int 2)) (own_at e6 Ar16.1) (State.isArrayOf_alike hZ.alike Ar16.2.1) Ar16.2.2 hin17 hat17 (g := (mkF m 9 (lc13 a1 a2 1) [(.int p8), (.ref a3), (.int p8), (.ref a3)])) rfl rfl (hb hby d8_9) _ (oiloadN X6 hx hby d8_10 rfl k))))))) ?_
  obtain ⟨cl18, Ar18, q18, S18, N18, H18, G18⟩ := id F13
  have hin19 : ¬ (p8 < 0 ∨ cl18.slots.size ≤ (p8).toNatClampNeg) := inb_of S18 ⟨hc14, hc15⟩
  obtain ⟨T19, h19, X19, e19, W19, st19⟩ := stI X6 hx hZ e6 Ar18 (j := p8) hin19 (g := (mkF m 20 (lc13 a1 a2 1) [(.int 3), (.int p8), (.ref a3)])) rfl rfl (hb hby d8_20)
  have N21 := Fr.snoc X19 N10 g20
  have f22 : Arh Z h19 a3 kc11 .int (8 : Int32) [(p8, (.int 3)), (p8, (.int 2)), (p12, (.int 1))] [] (.int (0 : Int32)) := Arh.push Ar18 q18 S18 N18 H18 G18 (by rfl) W19 hin19
  refine own_go (U' := T19.setTop (mkF m 21 (lc13 a1 a2 1) [])) (fun t k => oifN X6 hx hby d8_11 (by decide) (oiconst X6 hx hby d8_14 (ogoto (pc := 15) X6 hx hby d8_15 19 (by decide) (oiadd X6 hx hby d8_19 (st19 _ k))))) ?_
  obtain ⟨fs, hr, hrun, hended, hW, hsame⟩ := X19.leave (v := none) (fun _ => rfl)
  refine own_out ⟨_, _, ?_, hrun, hended, _, _, rfl, ?_, ⟨_, rfl⟩, hW, hsame.mono (by decide) (by decide)⟩
  · exact X19.returnOut hx Bd.returns (hb hby d8_21) hr
  · show Q8_70 Z a1 a2 a3 p8 kc11 p12 h0 n0 _ T19.heap _
    rw [e19]
    exact ⟨rfl, N21, ((Keep.refl h0 [a3]).wr W19 (Or.inl (List.mem_of_getElem? (i := 0) rfl))), f22⟩
def Q11_71 (Z : State) (a1 a2 a3 : Addr) (p8 : Int32) (kc11 : ClassId) (p12 : Int32) (h0 : Heap) (n0 : Nat) (v : Option Value) (h : Heap) (L : List Loc) : Prop := v = some (.int 3) ∧ Fr n0 L ∧ h = h0
set_option maxRecDepth 65536 in
set_option maxHeartbeats 40000000 in
theorem rm11_71 (l : Launch) (Z : State) (a0 : Array Value) (hw : ∀ d ∈ tables_1, d.before a0 Z = true) (ws : List Jvm.Cond) (a1 a2 a3 : Addr) (p8 : Int32) (kc11 : ClassId) (p12 : Int32) (h0 : Heap) (n0 : Nat) (Z0 : n0 ≤ h0.size) (F4 : Fld Z h0 a1 zs22 "counts" "[I" (.ref a3)) (F7 : Exa Z h0 a2 zs0) (F9 : Fld Z h0 a2 zs26 "ordinal" "I" (.int p8)) (F13 : Arh Z h0 a3 kc11 .int (8 : Int32) [(p8, (.int 3)), (p8, (.int 2)), (p12, (.int 1))] [] (.int (0 : Int32))) (hc14 : ¬ (p8 < (0 : Int32))) (hc15 : p8 < (8 : Int32)) :
    MetFree l zm10 (head1 (Jvm.Cond.code zm10 prog_30_method_5_code 2 (some .int) :: ws) ({ frames := 1, cells := 0, slots := 0, locals := 13 } : Room)) (fun a U => a = #[(.ref a1), (.ref a2)] ∧ Z.Warmed39 U.vm ∧ U.heap = h0) (fun _ _ _ _ _ => True) (fun _ U o U' => ∃ v L, o = .returned v ∧ Q11_71 Z a1 a2 a3 p8 kc11 p12 h0 n0 v U'.heap L ∧ FrameEnd U o U' L ({ frames := 1, cells := 0, slots := 0, locals := 13 } : Room).cells ({ frames := 1, cells := 0, slots := 0, locals := 13 } : Room).slots) := by
  refine MetFree.of_bodySF (plainFor_of_name pn_5) hisR ?_
  intro p e s m args below meth c s₁ Bd hml0 hP hK
  obtain ⟨rfl, hZ, hh⟩ := hP
  have hx := Bd.exec
  have hby := Bd.bytes
  have hml : c.maxLocals = 2 := hml0
  have hown : s.vm.findClass zs22 = some m.cls := findClass_of_methodNamed Bd.named
  have hnm := (name_of_methodNamed Bd.named Bd.method).1
  have X0 : Stand p l e ({ frames := 1, cells := 0, slots := 0, locals := 13 } : Room) s m #[(.ref a1), (.ref a2)] below meth c s₁ [] 0 0 := Stand.of_body Bd
  have e0 : s₁.heap = h0 := by rw [← hh, Bd.state]; rfl
  have N0 := Fr.nil n0
  refine own_pre (g' := mkF m 0 (lc16 a1 a2) []) (ef_4 m a1 a2) ?_
  obtain ⟨T5, X5, e5, st5⟩ := getF X0 hx hZ hown (host := "") (Or.inl (ww hw 41 rfl)) Via.refl e0 F4 (g := (mkF m 1 (lc16 a1 a2) [(.ref a1)])) rfl rfl (hb hby d11_1)
  obtain ⟨_, T6, L6, X6, hQ6, st6⟩ := ocallU X5 hx hZ zm8 zm6 hown (ww hw 74 rfl) (ww hw 75 rfl) (ww hw 76 rfl) (by decide) (ww hw 78 rfl) (ww hw 77 rfl) (ww hw 80 rfl) (ww hw 79 rfl) e5 F7 (rm9_14 l Z a0 hw [] a2 p8 h0 n0 Z0 F9) (st := [(.ref a2), (.ref a3)]) rfl 1 rfl (by decide) (pc := 5) (Ls := (lc16 a1 a2)) hml rfl (lenOf pd_3 rfl) d11_5 hby
  obtain ⟨rfl, N6q, e6⟩ := hQ6
  have N10 := Fr.app N0 N6q
  obtain ⟨cl16, Ar16, q16, S16, N16, H16, G16⟩ := id F13
  have hin17 : ¬ (p8 < 0 ∨ cl16.slots.size ≤ (p8).toNatClampNeg) := inb_of S16 ⟨hc14, hc15⟩
  have hat17 : cl16.slots[(p8).toNatClampNeg]? = some (.int 3) := atH H16 hin17 (getH_hit hc14 (rfl : p8 = p8))
  refine own_go (U' := T6.setTop (mkF m 9 (lc16 a1 a2) [(.int 3)])) (fun t k => oaloadN X0 hx hby d11_0 rfl rfl (st5 _ (oaloadN X5 hx hby d11_4 rfl rfl (st6 _ (X6.iaload hx (j := p8) (v := (.int 3)) (own_at e6 Ar16.1) (State.isArrayOf_alike hZ.alike Ar16.2.1) Ar16.2.2 hin17 hat17 (g := (mkF m 8 (lc16 a1 a2) [(.int p8), (.ref a3)])) rfl rfl (hb hby d11_8) _ k))))) ?_
  obtain ⟨fs, hr, hrun, hended, hW, hsame⟩ := X6.leave (v := some (.int 3)) (fun h => by rw [Bd.returns] at h; cases h)
  refine own_out ⟨_, _, ?_, hrun, hended, _, _, rfl, ?_, ⟨_, rfl⟩, hW, hsame.mono (by decide) (by decide)⟩
  · exact retI X6 hx Bd.returns (hb hby d11_9) hr
  · show Q11_71 Z a1 a2 a3 p8 kc11 p12 h0 n0 _ T6.heap _
    rw [e6]
    exact ⟨rfl, N10, rfl⟩
def Q11_72 (Z : State) (a1 a2 a3 : Addr) (p8 : Int32) (kc11 : ClassId) (p12 p13 : Int32) (h0 : Heap) (n0 : Nat) (v : Option Value) (h : Heap) (L : List Loc) : Prop := v = some (.int 3) ∧ Fr n0 L ∧ h = h0
set_option maxRecDepth 65536 in
set_option maxHeartbeats 40000000 in
theorem rm11_72 (l : Launch) (Z : State) (a0 : Array Value) (hw : ∀ d ∈ tables_1, d.before a0 Z = true) (ws : List Jvm.Cond) (a1 a2 a3 : Addr) (p8 : Int32) (kc11 : ClassId) (p12 p13 : Int32) (h0 : Heap) (n0 : Nat) (Z0 : n0 ≤ h0.size) (F4 : Fld Z h0 a1 zs22 "counts" "[I" (.ref a3)) (F7 : Exa Z h0 a2 zs0) (F9 : Fld Z h0 a2 zs26 "ordinal" "I" (.int p8)) (F14 : Arh Z h0 a3 kc11 .int (8 : Int32) [(p12, (.int 3)), (p12, (.int 2)), (p13, (.int 1))] [] (.int (0 : Int32))) (hc15 : ¬ (p8 < (0 : Int32))) (hc16 : p8 < (8 : Int32)) (hc17 : p8 = p12) :
    MetFree l zm10 (head1 (Jvm.Cond.code zm10 prog_30_method_5_code 2 (some .int) :: ws) ({ frames := 1, cells := 0, slots := 0, locals := 13 } : Room)) (fun a U => a = #[(.ref a1), (.ref a2)] ∧ Z.Warmed39 U.vm ∧ U.heap = h0) (fun _ _ _ _ _ => True) (fun _ U o U' => ∃ v L, o = .returned v ∧ Q11_72 Z a1 a2 a3 p8 kc11 p12 p13 h0 n0 v U'.heap L ∧ FrameEnd U o U' L ({ frames := 1, cells := 0, slots := 0, locals := 13 } : Room).cells ({ frames := 1, cells := 0, slots := 0, locals := 13 } : Room).slots) := by
  refine MetFree.of_bodySF (plainFor_of_name pn_5) hisR ?_
  intro p e s m args below meth c s₁ Bd hml0 hP hK
  obtain ⟨rfl, hZ, hh⟩ := hP
  have hx := Bd.exec
  have hby := Bd.bytes
  have hml : c.maxLocals = 2 := hml0
  have hown : s.vm.findClass zs22 = some m.cls := findClass_of_methodNamed Bd.named
  have hnm := (name_of_methodNamed Bd.named Bd.method).1
  have X0 : Stand p l e ({ frames := 1, cells := 0, slots := 0, locals := 13 } : Room) s m #[(.ref a1), (.ref a2)] below meth c s₁ [] 0 0 := Stand.of_body Bd
  have e0 : s₁.heap = h0 := by rw [← hh, Bd.state]; rfl
  have N0 := Fr.nil n0
  refine own_pre (g' := mkF m 0 (lc16 a1 a2) []) (ef_4 m a1 a2) ?_
  obtain ⟨T5, X5, e5, st5⟩ := getF X0 hx hZ hown (host := "") (Or.inl (ww hw 41 rfl)) Via.refl e0 F4 (g := (mkF m 1 (lc16 a1 a2) [(.ref a1)])) rfl rfl (hb hby d11_1)
  obtain ⟨_, T6, L6, X6, hQ6, st6⟩ := ocallU X5 hx hZ zm8 zm6 hown (ww hw 74 rfl) (ww hw 75 rfl) (ww hw 76 rfl) (by decide) (ww hw 78 rfl) (ww hw 77 rfl) (ww hw 80 rfl) (ww hw 79 rfl) e5 F7 (rm9_14 l Z a0 hw [] a2 p8 h0 n0 Z0 F9) (st := [(.ref a2), (.ref a3)]) rfl 1 rfl (by decide) (pc := 5) (Ls := (lc16 a1 a2)) hml rfl (lenOf pd_3 rfl) d11_5 hby
  obtain ⟨rfl, N6q, e6⟩ := hQ6
  have N10 := Fr.app N0 N6q
  obtain ⟨cl18, Ar18, q18, S18, N18, H18, G18⟩ := id F14
  have hin19 : ¬ (p8 < 0 ∨ cl18.slots.size ≤ (p8).toNatClampNeg) := inb_of S18 ⟨hc15, hc16⟩
  have hat19 : cl18.slots[(p8).toNatClampNeg]? = some (.int 3) := atH H18 hin19 (getH_hit hc15 hc17)
  refine own_go (U' := T6.setTop (mkF m 9 (lc16 a1 a2) [(.int 3)])) (fun t k => oaloadN X0 hx hby d11_0 rfl rfl (st5 _ (oaloadN X5 hx hby d11_4 rfl rfl (st6 _ (X6.iaload hx (j := p8) (v := (.int 3)) (own_at e6 Ar18.1) (State.isArrayOf_alike hZ.alike Ar18.2.1) Ar18.2.2 hin19 hat19 (g := (mkF m 8 (lc16 a1 a2) [(.int p8), (.ref a3)])) rfl rfl (hb hby d11_8) _ k))))) ?_
  obtain ⟨fs, hr, hrun, hended, hW, hsame⟩ := X6.leave (v := some (.int 3)) (fun h => by rw [Bd.returns] at h; cases h)
  refine own_out ⟨_, _, ?_, hrun, hended, _, _, rfl, ?_, ⟨_, rfl⟩, hW, hsame.mono (by decide) (by decide)⟩
  · exact retI X6 hx Bd.returns (hb hby d11_9) hr
  · show Q11_72 Z a1 a2 a3 p8 kc11 p12 p13 h0 n0 _ T6.heap _
    rw [e6]
    exact ⟨rfl, N10, rfl⟩
def Q11_73 (Z : State) (a1 a2 a3 : Addr) (p8 : Int32) (kc11 : ClassId) (p12 p13 : Int32) (h0 : Heap) (n0 : Nat) (v : Option Value) (h : Heap) (L : List Loc) : Prop := v = some (.int 0) ∧ Fr n0 L ∧ h = h0
set_option maxRecDepth 65536 in
set_option maxHeartbeats 40000000 in
theorem rm11_73 (l : Launch) (Z : State) (a0 : Array Value) (hw : ∀ d ∈ tables_1, d.before a0 Z = true) (ws : List Jvm.Cond) (a1 a2 a3 : Addr) (p8 : Int32) (kc11 : ClassId) (p12 p13 : Int32) (h0 : Heap) (n0 : Nat) (Z0 : n0 ≤ h0.size) (F4 : Fld Z h0 a1 zs22 "counts" "[I" (.ref a3)) (F7 : Exa Z h0 a2 zs0) (F9 : Fld Z h0 a2 zs26 "ordinal" "I" (.int p8)) (F14 : Arh Z h0 a3 kc11 .int (8 : Int32) [(p12, (.int 3)), (p12, (.int 2)), (p13, (.int 1))] [] (.int (0 : Int32))) (hc15 : ¬ (p8 < (0 : Int32))) (hc16 : p8 < (8 : Int32)) (hc17 : ¬ (p8 = p12)) (hc18 : ¬ (p8 = p13)) :
    MetFree l zm10 (head1 (Jvm.Cond.code zm10 prog_30_method_5_code 2 (some .int) :: ws) ({ frames := 1, cells := 0, slots := 0, locals := 13 } : Room)) (fun a U => a = #[(.ref a1), (.ref a2)] ∧ Z.Warmed39 U.vm ∧ U.heap = h0) (fun _ _ _ _ _ => True) (fun _ U o U' => ∃ v L, o = .returned v ∧ Q11_73 Z a1 a2 a3 p8 kc11 p12 p13 h0 n0 v U'.heap L ∧ FrameEnd U o U' L ({ frames := 1, cells := 0, slots := 0, locals := 13 } : Room).cells ({ frames := 1, cells := 0, slots := 0, locals := 13 } : Room).slots) := by
  refine MetFree.of_bodySF (plainFor_of_name pn_5) hisR ?_
  intro p e s m args below meth c s₁ Bd hml0 hP hK
  obtain ⟨rfl, hZ, hh⟩ := hP
  have hx := Bd.exec
  have hby := Bd.bytes
  have hml : c.maxLocals = 2 := hml0
  have hown : s.vm.findClass zs22 = some m.cls := findClass_of_methodNamed Bd.named
  have hnm := (name_of_methodNamed Bd.named Bd.method).1
  have X0 : Stand p l e ({ frames := 1, cells := 0, slots := 0, locals := 13 } : Room) s m #[(.ref a1), (.ref a2)] below meth c s₁ [] 0 0 := Stand.of_body Bd
  have e0 : s₁.heap = h0 := by rw [← hh, Bd.state]; rfl
  have N0 := Fr.nil n0
  refine own_pre (g' := mkF m 0 (lc16 a1 a2) []) (ef_4 m a1 a2) ?_
  obtain ⟨T5, X5, e5, st5⟩ := getF X0 hx hZ hown (host := "") (Or.inl (ww hw 41 rfl)) Via.refl e0 F4 (g := (mkF m 1 (lc16 a1 a2) [(.ref a1)])) rfl rfl (hb hby d11_1)
  obtain ⟨_, T6, L6, X6, hQ6, st6⟩ := ocallU X5 hx hZ zm8 zm6 hown (ww hw 74 rfl) (ww hw 75 rfl) (ww hw 76 rfl) (by decide) (ww hw 78 rfl) (ww hw 77 rfl) (ww hw 80 rfl) (ww hw 79 rfl) e5 F7 (rm9_14 l Z a0 hw [] a2 p8 h0 n0 Z0 F9) (st := [(.ref a2), (.ref a3)]) rfl 1 rfl (by decide) (pc := 5) (Ls := (lc16 a1 a2)) hml rfl (lenOf pd_3 rfl) d11_5 hby
  obtain ⟨rfl, N6q, e6⟩ := hQ6
  have N10 := Fr.app N0 N6q
  obtain ⟨cl19, Ar19, q19, S19, N19, H19, G19⟩ := id F14
  have hin20 : ¬ (p8 < 0 ∨ cl19.slots.size ≤ (p8).toNatClampNeg) := inb_of S19 ⟨hc15, hc16⟩
  have hat20 : cl19.slots[(p8).toNatClampNeg]? = some (.int 0) := atH H19 hin20 (getH_miss hc15 hc17 (getH_miss hc15 hc17 (getH_miss hc15 hc18 rfl)))
  refine own_go (U' := T6.setTop (mkF m 9 (lc16 a1 a2) [(.int 0)])) (fun t k => oaloadN X0 hx hby d11_0 rfl rfl (st5 _ (oaloadN X5 hx hby d11_4 rfl rfl (st6 _ (X6.iaload hx (j := p8) (v := (.int 0)) (own_at e6 Ar19.1) (State.isArrayOf_alike hZ.alike Ar19.2.1) Ar19.2.2 hin20 hat20 (g := (mkF m 8 (lc16 a1 a2) [(.int p8), (.ref a3)])) rfl rfl (hb hby d11_8) _ k))))) ?_
  obtain ⟨fs, hr, hrun, hended, hW, hsame⟩ := X6.leave (v := some (.int 0)) (fun h => by rw [Bd.returns] at h; cases h)
  refine own_out ⟨_, _, ?_, hrun, hended, _, _, rfl, ?_, ⟨_, rfl⟩, hW, hsame.mono (by decide) (by decide)⟩
  · exact retI X6 hx Bd.returns (hb hby d11_9) hr
  · show Q11_73 Z a1 a2 a3 p8 kc11 p12 p13 h0 n0 _ T6.heap _
    rw [e6]
    exact ⟨rfl, N10, rfl⟩
def Q11_74 (Z : State) (a1 a2 a3 : Addr) (p8 : Int32) (kc11 : ClassId) (p12 p13 : Int32) (h0 : Heap) (n0 : Nat) (v : Option Value) (h : Heap) (L : List Loc) : Prop := v = some (.int 1) ∧ Fr n0 L ∧ h = h0
set_option maxRecDepth 65536 in
set_option maxHeartbeats 40000000 in
theorem rm11_74 (l : Launch) (Z : State) (a0 : Array Value) (hw : ∀ d ∈ tables_1, d.before a0 Z = true) (ws : List Jvm.Cond) (a1 a2 a3 : Addr) (p8 : Int32) (kc11 : ClassId) (p12 p13 : Int32) (h0 : Heap) (n0 : Nat) (Z0 : n0 ≤ h0.size) (F4 : Fld Z h0 a1 zs22 "counts" "[I" (.ref a3)) (F7 : Exa Z h0 a2 zs0) (F9 : Fld Z h0 a2 zs26 "ordinal" "I" (.int p8)) (F14 : Arh Z h0 a3 kc11 .int (8 : Int32) [(p12, (.int 2)), (p12, (.int 1)), (p13, (.int 1))] [] (.int (0 : Int32))) (hc15 : ¬ (p8 < (0 : Int32))) (hc16 : p8 < (8 : Int32)) (hc17 : ¬ (p8 = p12)) (hc18 : p8 = p13) :
    MetFree l zm10 (head1 (Jvm.Cond.code zm10 prog_30_method_5_code 2 (some .int) :: ws) ({ frames := 1, cells := 0, slots := 0, locals := 13 } : Room)) (fun a U => a = #[(.ref a1), (.ref a2)] ∧ Z.Warmed39 U.vm ∧ U.heap = h0) (fun _ _ _ _ _ => True) (fun _ U o U' => ∃ v L, o = .returned v ∧ Q11_74 Z a1 a2 a3 p8 kc11 p12 p13 h0 n0 v U'.heap L ∧ FrameEnd U o U' L ({ frames := 1, cells := 0, slots := 0, locals := 13 } : Room).cells ({ frames := 1, cells := 0, slots := 0, locals := 13 } : Room).slots) := by
  refine MetFree.of_bodySF (plainFor_of_name pn_5) hisR ?_
  intro p e s m args below meth c s₁ Bd hml0 hP hK
  obtain ⟨rfl, hZ, hh⟩ := hP
  have hx := Bd.exec
  have hby := Bd.bytes
  have hml : c.maxLocals = 2 := hml0
  have hown : s.vm.findClass zs22 = some m.cls := findClass_of_methodNamed Bd.named
  have hnm := (name_of_methodNamed Bd.named Bd.method).1
  have X0 : Stand p l e ({ frames := 1, cells := 0, slots := 0, locals := 13 } : Room) s m #[(.ref a1), (.ref a2)] below meth c s₁ [] 0 0 := Stand.of_body Bd
  have e0 : s₁.heap = h0 := by rw [← hh, Bd.state]; rfl
  have N0 := Fr.nil n0
  refine own_pre (g' := mkF m 0 (lc16 a1 a2) []) (ef_4 m a1 a2) ?_
  obtain ⟨T5, X5, e5, st5⟩ := getF X0 hx hZ hown (host := "") (Or.inl (ww hw 41 rfl)) Via.refl e0 F4 (g := (mkF m 1 (lc16 a1 a2) [(.ref a1)])) rfl rfl (hb hby d11_1)
  obtain ⟨_, T6, L6, X6, hQ6, st6⟩ := ocallU X5 hx hZ zm8 zm6 hown (ww hw 74 rfl) (ww hw 75 rfl) (ww hw 76 rfl) (by decide) (ww hw 78 rfl) (ww hw 77 rfl) (ww hw 80 rfl) (ww hw 79 rfl) e5 F7 (rm9_14 l Z a0 hw [] a2 p8 h0 n0 Z0 F9) (st := [(.ref a2), (.ref a3)]) rfl 1 rfl (by decide) (pc := 5) (Ls := (lc16 a1 a2)) hml rfl (lenOf pd_3 rfl) d11_5 hby
  obtain ⟨rfl, N6q, e6⟩ := hQ6
  have N10 := Fr.app N0 N6q
  obtain ⟨cl19, Ar19, q19, S19, N19, H19, G19⟩ := id F14
  have hin20 : ¬ (p8 < 0 ∨ cl19.slots.size ≤ (p8).toNatClampNeg) := inb_of S19 ⟨hc15, hc16⟩
  have hat20 : cl19.slots[(p8).toNatClampNeg]? = some (.int 1) := atH H19 hin20 (getH_miss hc15 hc17 (getH_miss hc15 hc17 (getH_hit hc15 hc18)))
  refine own_go (U' := T6.setTop (mkF m 9 (lc16 a1 a2) [(.int 1)])) (fun t k => oaloadN X0 hx hby d11_0 rfl rfl (st5 _ (oaloadN X5 hx hby d11_4 rfl rfl (st6 _ (X6.iaload hx (j := p8) (v := (.int 1)) (own_at e6 Ar19.1) (State.isArrayOf_alike hZ.alike Ar19.2.1) Ar19.2.2 hin20 hat20 (g := (mkF m 8 (lc16 a1 a2) [(.int p8), (.ref a3)])) rfl rfl (hb hby d11_8) _ k))))) ?_
  obtain ⟨fs, hr, hrun, hended, hW, hsame⟩ := X6.leave (v := some (.int 1)) (fun h => by rw [Bd.returns] at h; cases h)
  refine own_out ⟨_, _, ?_, hrun, hended, _, _, rfl, ?_, ⟨_, rfl⟩, hW, hsame.mono (by decide) (by decide)⟩
  · exact retI X6 hx Bd.returns (hb hby d11_9) hr
  · show Q11_74 Z a1 a2 a3 p8 kc11 p12 p13 h0 n0 _ T6.heap _
    rw [e6]
    exact ⟨rfl, N10, rfl⟩
set_option maxRecDepth 65536 in
set_option maxHeartbeats 40000000 in
theorem law_all (l : Launch) (Z : State) (a0 : Array Value) (hw : ∀ d ∈ tables_1, d.before a0 Z = true) (ws : List Jvm.Cond) (i0 i1 i2 i3 : Int32) (w0 w1 w2 w3 w4 w5 w6 w7 w8 w9 w10 : Addr) (kl0 : ClassId) (kl1 : ClassId) (kl2 : ClassId) (h0 : Heap) (n0 : Nat) (Z0 : n0 ≤ h0.size) (S0 : Sta Z h0 "com/example/stratafold/stratafold/measure/PopulationType" "INITIAL_POPULATION" "Lcom/example/stratafold/stratafold/measure/PopulationType;" (.ref w0)) (S1 : Exa Z h0 w0 "com/example/stratafold/stratafold/measure/PopulationType") (S2 : Sta Z h0 "com/example/stratafold/stratafold/measure/PopulationType" "NUMERATOR" "Lcom/example/stratafold/stratafold/measure/PopulationType;" (.ref w1)) (S3 : Exa Z h0 w1 "com/example/stratafold/stratafold/measure/PopulationType") (S4 : Sta Z h0 "com/example/stratafold/stratafold/measure/PopulationType" "DENOMINATOR_EXCLUSION" "Lcom/example/stratafold/stratafold/measure/PopulationType;" (.ref w2)) (S5 : Exa Z h0 w2 "com/example/stratafold/stratafold/measure/PopulationType") (S6 : Sta Z h0 "com/example/stratafold/stratafold/measure/PopulationType" "$VALUES" "[Lcom/example/stratafold/stratafold/measure/PopulationType;" (.ref w3)) (S7 : Exa Z h0 w3 "[Lcom/example/stratafold/stratafold/measure/PopulationType;") (S8 : Sta Z h0 "com/example/stratafold/stratafold/measure/PopulationType" "DENOMINATOR" "Lcom/example/stratafold/stratafold/measure/PopulationType;" (.ref w4)) (S9 : Exa Z h0 w4 "com/example/stratafold/stratafold/measure/PopulationType") (S10 : Sta Z h0 "com/example/stratafold/stratafold/measure/PopulationType" "DENOMINATOR_EXCEPTION" "Lcom/example/stratafold/stratafold/measure/PopulationType;" (.ref w5)) (S11 : Exa Z h0 w5 "com/example/stratafold/stratafold/measure/PopulationType") (S12 : Sta Z h0 "com/example/stratafold/stratafold/measure/PopulationType" "MEASURE_POPULATION" "Lcom/example/stratafold/stratafold/measure/PopulationType;" (.ref w6)) (S13 : Exa Z h0 w6 "com/example/stratafold/stratafold/measure/PopulationType") (S14 : Sta Z h0 "com/example/stratafold/stratafold/measure/PopulationType" "MEASURE_POPULATION_EXCLUSION" "Lcom/example/stratafold/stratafold/measure/PopulationType;" (.ref w7)) (S15 : Exa Z h0 w7 "com/example/stratafold/stratafold/measure/PopulationType") (S16 : Sta Z h0 "com/example/stratafold/stratafold/measure/PopulationType" "MEASURE_OBSERVATION" "Lcom/example/stratafold/stratafold/measure/PopulationType;" (.ref w8)) (S17 : Exa Z h0 w8 "com/example/stratafold/stratafold/measure/PopulationType") (S18 : Fld Z h0 w1 "java/lang/Enum" "ordinal" "I" (.int 3)) (S19 : Fld Z h0 w0 "java/lang/Enum" "ordinal" "I" (.int 0)) (S20 : Fld Z h0 w2 "java/lang/Enum" "ordinal" "I" (.int 2)) (S21 : Fld Z h0 w5 "java/lang/Enum" "ordinal" "I" (.int 4)) (S22 : Fld Z h0 w8 "java/lang/Enum" "ordinal" "I" (.int 7)) (S23 : Fld Z h0 w7 "java/lang/Enum" "ordinal" "I" (.int 6)) (S24 : Fld Z h0 w4 "java/lang/Enum" "ordinal" "I" (.int 1)) (S25 : Fld Z h0 w6 "java/lang/Enum" "ordinal" "I" (.int 5)) (S26 : Sta Z h0 "java/util/ArrayList" "EMPTY_ELEMENTDATA" "[Ljava/lang/Object;" (.ref w9)) (S27 : Exa Z h0 w9 "[Ljava/lang/Object;") (S28 : Sta Z h0 "java/util/ArrayList" "DEFAULTCAPACITY_EMPTY_ELEMENTDATA" "[Ljava/lang/Object;" (.ref w10)) (S29 : Exa Z h0 w10 "[Ljava/lang/Object;") (S30 : Arv Z h0 w3 kl0 (.object "com/example/stratafold/stratafold/measure/PopulationType") (8 : Int32) [(.ref w0), (.ref w4), (.ref w2), (.ref w1), (.ref w5), (.ref w6), (.ref w7), (.ref w8)] .null) (S31 : Arv Z h0 w9 kl1 (.object "java/lang/Object") (0 : Int32) [] .null) (S32 : Arv Z h0 w10 kl2 (.object "java/lang/Object") (0 : Int32) [] .null) :
    MetFree l x (head1 (Jvm.Cond.code x code maxLocals ret :: ws) room_1) (fun a U => a = #[(.int i0), (.int i1), (.int i2), (.int i3)] ∧ Z.Warmed39 U.vm ∧ U.heap = h0) (fun _ _ _ _ _ => True) (fun _ U o U' => ∃ v L, o = .returned v ∧ QLaw n0 v U'.heap L ∧ FrameEnd U o U' L room_1.cells room_1.slots) := by
  refine MetFree.of_bodySF (plainFor_of_name pn_0) hisR ?_
  intro p e s m args below meth c s₁ Bd hml0 hP hK
  obtain ⟨rfl, hZ, hh⟩ := hP
  have hx := Bd.exec
  have hby := Bd.bytes
  have hml : c.maxLocals = 16 := hml0
  have hown : s.vm.findClass zs10 = some m.cls := findClass_of_methodNamed Bd.named
  have hnm := (name_of_methodNamed Bd.named Bd.method).1
  have X0 : Stand p l e room_1 s m #[(.int i0), (.int i1), (.int i2), (.int i3)] below meth c s₁ [] 0 0 := Stand.of_body Bd
  have e0 : s₁.heap = h0 := by rw [← hh, Bd.state]; rfl
  have N0 := Fr.nil n0
  refine own_pre (g' := mkF m 0 (lc17 i0 i1 i2 i3) []) (ef_5 m i0 i1 i2 i3) ?_
  refine own_go (U' := s₁.setTop (mkF m 6 (lc0 i0 i1 i2 i3 (i0 &&& (7 : Int32))) [])) (fun t k => oiloadN X0 hx hby at_0 rfl (obipush X0 hx hby at_1 (oiand X0 hx hby at_3 (oistore X0 hx hby at_4 (lc0 i0 i1 i2 i3 (i0 &&& (7 : Int32))) rfl k)))) ?_
  obtain ⟨z1, hz1⟩ : ∃ z, z = (i0 &&& (7 : Int32)) := ⟨_, rfl⟩
  rw [← hz1]
  refine own_go (U' := s₁.setTop (mkF m 12 (lc1 i0 i1 i2 i3 z1 (i1 &&& (7 : Int32))) [])) (fun t k => oiloadN X0 hx hby at_6 rfl (obipush X0 hx hby at_7 (oiand X0 hx hby at_9 (oistore X0 hx hby at_10 (lc1 i0 i1 i2 i3 z1 (i1 &&& (7 : Int32))) rfl k)))) ?_
  obtain ⟨z2, hz2⟩ : ∃ z, z = (i1 &&& (7 : Int32)) := ⟨_, rfl⟩
  rw [← hz2]
  refine own_go (U' := s₁.setTop (mkF m 18 (lc2 i0 i1 i2 i3 z1 z2 (i2 &&& (7 : Int32))) [])) (fun t k => oiloadN X0 hx hby at_12 rfl (obipush X0 hx hby at_13 (oiand X0 hx hby at_15 (oistore X0 hx hby at_16 (lc2 i0 i1 i2 i3 z1 z2 (i2 &&& (7 : Int32))) rfl k)))) ?_
  obtain ⟨z3, hz3⟩ : ∃ z, z = (i2 &&& (7 : Int32)) := ⟨_, rfl⟩
  rw [← hz3]
  refine own_go (U' := s₁.setTop (mkF m 21 (lc2 i0 i1 i2 i3 z1 z2 z3) [(.int (i3 &&& (1 : Int32)))])) (fun t k => oiloadN X0 hx hby at_18 rfl (oiconst X0 hx hby at_19 (oiand X0 hx hby at_20 k))) ?_
  rcases own_s2 i3 with hk1 | hk1
  · have hv0 : (i3 &&& (1 : Int32)) = (0 : Int32) := hk1
    rw [hv0]
    refine own_go (U' := s₁.setTop (mkF m 34 (lc3 i0 i1 i2 i3 z1 z2 z3 0) [(.int (i3 &&& (2 : Int32)))])) (fun t k => oifY (pc := 21) X0 hx hby at_21 28 (by decide) (by decide) (oiconst X0 hx hby at_28 (oistore X0 hx hby at_29 (lc3 i0 i1 i2 i3 z1 z2 z3 0) rfl (oiloadN X0 hx hby at_31 rfl (oiconst X0 hx hby at_32 (oiand X0 hx hby at_33 k)))))) ?_
    by_cases hk2 : (i3 &&& (2 : Int32)) = (0 : Int32)
    · have hc1 : (i3 &&& (2 : Int32)) = (0 : Int32) := hk2
      refine own_go (U' := s₁.setTop (mkF m 47 (lc4 i0 i1 i2 i3 z1 z2 z3 0 0) [(.int (i3 &&& (4 : Int32)))])) (fun t k => oifY (pc := 34) X0 hx hby at_34 41 ((if0 _ _).trans (teq hc1).1) (by decide) (oiconst X0 hx hby at_41 (oistore X0 hx hby at_42 (lc4 i0 i1 i2 i3 z1 z2 z3 0 0) rfl (oiloadN X0 hx hby at_44 rfl (oiconst X0 hx hby at_45 (oiand X0 hx hby at_46 k)))))) ?_
      by_cases hk3 : (i3 &&& (4 : Int32)) = (0 : Int32)
      · obtain ⟨_, Tr1, Lr1, Xr1, hQr1, str1⟩ := ocallS X0 hx hZ zm0 hown (ww hw 0 rfl) (ww hw 1 rfl) (by decide) (ww hw 3 rfl) (ww hw 2 rfl) e0 (mg1_8 l Z a0 hw [] z1 w0 w4 w2 w1 w5 w6 w7 w8 h0 n0 Z0 S0 S8 S4 S2 S10 S12 S14 S16) (st := [(.int z1)]) rfl 0 rfl (by decide) (pc := 59) (Ls := (lc5 i0 i1 i2 i3 z1 z2 z3 0 0 0)) hml rfl (lenOf pd_0 rfl) at_59 hby
        obtain ⟨rfl, Nr1q, er1⟩ := hQr1
        have hc2 : (i3 &&& (4 : Int32)) = (0 : Int32) := hk3
        refine own_go (U' := Tr1.setTop (mkF m 62 (lc5 i0 i1 i2 i3 z1 z2 z3 0 0 0) [(.ref (own_pick z1 w0 w4 w2 w1 w5 w6 w7 w8))])) (fun t k => oifY (pc := 47) X0 hx hby at_47 54 ((if0 _ _).trans (teq hc2).1) (by decide) (oiconst X0 hx hby at_54 (oistore X0 hx hby at_55 (lc5 i0 i1 i2 i3 z1 z2 z3 0 0 0) rfl (oiload X0 hx hby at_57 rfl (str1 _ k))))) ?_
        obtain ⟨u1, hu1⟩ : ∃ z, z = (own_pick z1 w0 w4 w2 w1 w5 w6 w7 w8) := ⟨_, rfl⟩
        rw [← hu1]
        have f1 : Exa Z h0 u1 zs0 := by rw [hu1]; exact own_pick_E S1 S9 S5 S3 S11 S13 S15 S17
        have hc3 : ¬ ((i0 &&& (7 : Int32)) < (0 : Int32)) := (fun e => by have := Int32.lt_iff_toInt_lt.mp e; have := c_and i0 (7 : Int32) (by decide); have := (by decide : ((7 : Int32)).toInt = 7); have := (by decide : ((0 : Int32)).toInt = 0); omega)
        have hs4 : ¬ (z1 < (0 : Int32)) := by rw [hz1]; exact hc3
        have hc5 : (i0 &&& (7 : Int32)) < (8 : Int32) := (Int32.lt_iff_toInt_lt.mpr (by have := c_and i0 (7 : Int32) (by decide); have := (by decide : ((7 : Int32)).toInt = 7); have := (by decide : ((8 : Int32)).toInt = 8); omega))
        have hs6 : z1 < (8 : Int32) := by rw [hz1]; exact hc5
        have f2 : Fld Z h0 u1 zs26 "ordinal" "I" (.int z1) := by rw [hu1]; exact own_pick_O S19 S24 S20 S18 S21 S25 S23 S22 hs4 hs6
        have N1 := Fr.app N0 Nr1q
        obtain ⟨_, Tr2, Lr2, Xr2, hQr2, str2⟩ := ocallS Xr1 hx hZ zm0 hown (ww hw 0 rfl) (ww hw 1 rfl) (by decide) (ww hw 3 rfl) (ww hw 2 rfl) er1 (mg1_8 l Z a0 hw [] z2 w0 w4 w2 w1 w5 w6 w7 w8 h0 n0 Z0 S0 S8 S4 S2 S10 S12 S14 S16) (st := [(.int z2)]) rfl 0 rfl (by decide) (pc := 66) (Ls := (lc7 i0 i1 i2 i3 z1 z2 z3 0 0 0 u1)) hml rfl (lenOf pd_0 rfl) at_66 hby
        obtain ⟨rfl, Nr2q, er2⟩ := hQr2
        refine own_go (U' := Tr2.setTop (mkF m 69 (lc7 i0 i1 i2 i3 z1 z2 z3 0 0 0 u1) [(.ref (own_pick z2 w0 w4 w2 w1 w5 w6 w7 w8))])) (fun t k => oastore Xr1 hx hby at_62 (lc7 i0 i1 i2 i3 z1 z2 z3 0 0 0 u1) rfl rfl (oiload Xr1 hx hby at_64 rfl (str2 _ k))) ?_
        obtain ⟨u2, hu2⟩ : ∃ z, z = (own_pick z2 w0 w4 w2 w1 w5 w6 w7 w8) := ⟨_, rfl⟩
        rw [← hu2]
        have f3 : Exa Z h0 u2 zs0 := by rw [hu2]; exact own_pick_E S1 S9 S5 S3 S11 S13 S15 S17
        have hc7 : ¬ ((i1 &&& (7 : Int32)) < (0 : Int32)) := (fun e => by have := Int32.lt_iff_toInt_lt.mp e; have := c_and i1 (7 : Int32) (by decide); have := (by decide : ((7 : Int32)).toInt = 7); have := (by decide : ((0 : Int32)).toInt = 0); omega)
        have hs8 : ¬ (z2 < (0 : Int32)) := by rw [hz2]; exact hc7
        have hc9 : (i1 &&& (7 : Int32)) < (8 : Int32) := (Int32.lt_iff_toInt_lt.mpr (by have := c_and i1 (7 : Int32) (by decide); have := (by decide : ((7 : Int32)).toInt = 7); have := (by decide : ((8 : Int32)).toInt = 8); omega))
        have hs10 : z2 < (8 : Int32) := by rw [hz2]; exact hc9
        have f4 : Fld Z h0 u2 zs26 "ordinal" "I" (.int z2) := by rw [hu2]; exact own_pick_O S19 S24 S20 S18 S21 S25 S23 S22 hs8 hs10
        have N2 := Fr.app N1 Nr2q
        obtain ⟨_, Tr3, Lr3, Xr3, hQr3, str3⟩ := ocallS Xr2 hx hZ zm0 hown (ww hw 0 rfl) (ww hw 1 rfl) (by decide) (ww hw 3 rfl) (ww hw 2 rfl) er2 (mg1_8 l Z a0 hw [] z3 w0 w4 w2 w1 w5 w6 w7 w8 h0 n0 Z0 S0 S8 S4 S2 S10 S12 S14 S16) (st := [(.int z3)]) rfl 0 rfl (by decide) (pc := 73) (Ls := (lc8 i0 i1 i2 i3 z1 z2 z3 0 0 0 u1 u2)) hml rfl (lenOf pd_0 rfl) at_73 hby
        obtain ⟨rfl, Nr3q, er3⟩ := hQr3
        refine own_go (U' := Tr3.setTop (mkF m 76 (lc8 i0 i1 i2 i3 z1 z2 z3 0 0 0 u1 u2) [(.ref (own_pick z3 w0 w4 w2 w1 w5 w6 w7 w8))])) (fun t k => oastore Xr2 hx hby at_69 (lc8 i0 i1 i2 i3 z1 z2 z3 0 0 0 u1 u2) rfl rfl (oiload Xr2 hx hby at_71 rfl (str3 _ k))) ?_
        obtain ⟨u3, hu3⟩ : ∃ z, z = (own_pick z3 w0 w4 w2 w1 w5 w6 w7 w8) := ⟨_, rfl⟩
        rw [← hu3]
        have f5 : Exa Z h0 u3 zs0 := by rw [hu3]; exact own_pick_E S1 S9 S5 S3 S11 S13 S15 S17
        have hc11 : ¬ ((i2 &&& (7 : Int32)) < (0 : Int32)) := (fun e => by have := Int32.lt_iff_toInt_lt.mp e; have := c_and i2 (7 : Int32) (by decide); have := (by decide : ((7 : Int32)).toInt = 7); have := (by decide : ((0 : Int32)).toInt = 0); omega)
        have hs12 : ¬ (z3 < (0 : Int32)) := by rw [hz3]; exact hc11
        have hc13 : (i2 &&& (7 : Int32)) < (8 : Int32) := (Int32.lt_iff_toInt_lt.mpr (by have := c_and i2 (7 : Int32) (by decide); have := (by decide : ((7 : Int32)).toInt = 7); have := (by decide : ((8 : Int32)).toInt = 8); omega))
        have hs14 : z3 < (8 : Int32) := by rw [hz3]; exact hc13
        have f6 : Fld Z h0 u3 zs26 "ordinal" "I" (.int z3) := by rw [hu3]; exact own_pick_O S19 S24 S20 S18 S21 S25 S23 S22 hs12 hs14
        have N3 := Fr.app N2 Nr3q
        obtain ⟨Tr4, hr4, Xr4, er4, Er4, Ar4, Dr4, -, str4⟩ := newO Xr3 hx hZ hown (ww hw 11 rfl) (ww hw 12 rfl) (ww hw 13 rfl) er3 (g := (mkF m 78 (lc9 i0 i1 i2 i3 z1 z2 z3 0 0 0 u1 u2 u3) [])) rfl (hb hby at_78) (by decide) (by decide)
        obtain ⟨br4, gr4⟩ : ∃ z, z = h0.size := ⟨_, rfl⟩
        rw [← gr4] at Ar4 Dr4 str4
        have f7 : Fld Z hr4 br4 zs22 "counts" "[I" .null := Dr4 (Or.inr (ww hw 42 rfl)) (ty := (.array .int)) (by decide)
        have f8 : Fld Z hr4 br4 zs22 zs23 zs24 .null := Dr4 (Or.inr (ww hw 68 rfl)) (ty := (.object zs25)) (by decide)
        have f9 : Sta Z hr4 zs0 "$VALUES" zs12 (.ref w3) := (Sta.ext Er4 S6)
        have f10 : Arv Z hr4 w3 kl0 (.object zs0) (8 : Int32) [(.ref w0), (.ref w4), (.ref w2), (.ref w1), (.ref w5), (.ref w6), (.ref w7), (.ref w8)] .null := (S30.ext Er4)
        have f11 : Exa Z hr4 w3 zs12 := (Exa.ext Er4 S7)
        have g1 : n0 ≤ br4 := Nat.le_trans Z0 (Nat.le_of_eq gr4.symm)
        have f12 : Sta Z hr4 zs17 zs21 zs19 (.ref w10) := (Sta.ext Er4 S28)
        have Z_1 : n0 ≤ hr4.size := Nat.le_trans Z0 Er4.1
        obtain ⟨_, Tr5, Lr5, Xr5, hQr5, str5⟩ := ocallI Xr4 hx hZ zm5 rfl hown (ww hw 14 rfl) (ww hw 15 rfl) (by decide) (ww hw 16 rfl) (ww hw 13 rfl) er4 (rm2_13 l Z a0 hw [] br4 w3 w0 w4 w2 w1 w5 w6 w7 w8 kl0 w10 hr4 n0 Z_1 f9 f10 f11 f7 f8 Ar4 g1 f12) (st := [(.ref br4), (.ref br4)]) rfl 1 rfl (by decide) (pc := 82) (Ls := (lc9 i0 i1 i2 i3 z1 z2 z3 0 0 0 u1 u2 u3)) hml rfl (lenOf pd_2 rfl) at_82 hby
        obtain ⟨b1, b2, k1, rfl, Nr5q, Kr5, sz1, sz2, ne1, f13, f14, f15, f16, f17, f18, f19⟩ := hQr5
        have N4 := Fr.app N3 Nr5q
        have f20 : Exa Z Tr5.heap br4 zs22 := (Ar4.keep Kr5)
        have f21 : Exa Z Tr5.heap u2 zs0 := ((Exa.ext Er4 f3).keep Kr5)
        have ne2 : u2 ≠ br4 := Nat.ne_of_lt (Nat.lt_of_lt_of_le (f4.lt) (Nat.le_of_eq gr4.symm))
        have f22 : Fld Z Tr5.heap u2 zs26 "ordinal" "I" (.int z2) := ((Fld.ext Er4 f4).keep Kr5 (ninS ne2 nin0))
        have g2 : n0 ≤ b1 := Nat.le_trans Z_1 sz1
        have Z_2 : n0 ≤ Tr5.heap.size := Nat.le_trans Z_1 Kr5.1
        obtain ⟨_, Tr6, Lr6, Xr6, hQr6, str6⟩ := ocallV Xr5 hx hZ zm7 zm7 hown (ww hw 69 rfl) (ww hw 70 rfl) (notFace_of_selects (args := #[]) (mvT hZ (ww hw 72 rfl))) (ww hw 72 rfl) (ww hw 71 rfl) (by decide) (ww hw 73 rfl) (ww hw 13 rfl) rfl f20 (rm8_15 l Z a0 hw [] br4 u2 b1 z2 k1 Tr5.heap n0 Z_2 f13 f21 f22 f16 hs8 hs10 g2) (st := [(.int 0), (.ref u2), (.ref br4)]) rfl 0 rfl (by decide) (pc := 93) (Ls := (lc12 i0 i1 i2 i3 z1 z2 z3 0 0 0 u1 u2 u3 br4)) hml rfl (lenOf pd_4 rfl) at_93 hby
        obtain ⟨rfl, Nr6q, Kr6, f23⟩ := hQr6
        have N5 := Fr.app N4 Nr6q
        have f24 : Exa Z Tr6.heap br4 zs22 := (f20.keep Kr6)
        have ne3 : br4 ≠ b1 := Nat.ne_of_lt (Nat.lt_of_lt_of_le (f7.lt) sz1)
        have f25 : Fld Z Tr6.heap br4 zs22 "counts" "[I" (.ref b1) := (f13.keep Kr6 (ninS ne3 nin0))
        have f26 : Exa Z Tr6.heap u1 zs0 := (((Exa.ext Er4 f1).keep Kr5).keep Kr6)
        have ne4 : u1 ≠ br4 := Nat.ne_of_lt (Nat.lt_of_lt_of_le (f2.lt) (Nat.le_of_eq gr4.symm))
        have ne5 : u1 ≠ b1 := Nat.ne_of_lt (Nat.lt_of_lt_of_le (Nat.lt_of_lt_of_le (f2.lt) Er4.1) sz1)
        have f27 : Fld Z Tr6.heap u1 zs26 "ordinal" "I" (.int z1) := (((Fld.ext Er4 f2).keep Kr5 (ninS ne4 nin0)).keep Kr6 (ninS ne5 nin0))
        have Z_3 : n0 ≤ Tr6.heap.size := Nat.le_trans Z_2 Kr6.1
        by_cases hk4 : (i0 &&& (7 : Int32)) = (i1 &&& (7 : Int32))
        · have hc15 : (i0 &&& (7 : Int32)) = (i1 &&& (7 : Int32)) := hk4
          have hs16 : z1 = z2 := by rw [hz2, hz1]; exact hc15
          obtain ⟨_, Tr7, Lr7, Xr7, hQr7, str7⟩ := ocallV Xr6 hx hZ zm7 zm7 hown (ww hw 69 rfl) (ww hw 70 rfl) (notFace_of_selects (args := #[]) (mvT hZ (ww hw 72 rfl))) (ww hw 72 rfl) (ww hw 71 rfl) (by decide) (ww hw 73 rfl) (ww hw 13 rfl) rfl f24 (rm8_16 l Z a0 hw [] br4 u1 b1 z1 k1 z2 Tr6.heap n0 Z_3 f25 f26 f27 f23 hs4 hs6 hs16 g2) (st := [(.int 0), (.ref u1), (.ref br4)]) rfl 0 rfl (by decide) (pc := 102) (Ls := (lc12 i0 i1 i2 i3 z1 z2 z3 0 0 0 u1 u2 u3 br4)) hml rfl (lenOf pd_4 rfl) at_102 hby
          obtain ⟨rfl, Nr7q, Kr7, f28⟩ := hQr7
          have N6 := Fr.app N5 Nr7q
          have f29 : Exa Z Tr7.heap br4 zs22 := (f24.keep Kr7)
          have f30 : Fld Z Tr7.heap br4 zs22 "counts" "[I" (.ref b1) := (f25.keep Kr7 (ninS ne3 nin0))
          have f31 : Exa Z Tr7.heap u1 zs0 := (f26.keep Kr7)
          have f32 : Fld Z Tr7.heap u1 zs26 "ordinal" "I" (.int z1) := (f27.keep Kr7 (ninS ne5 nin0))
          have Z_4 : n0 ≤ Tr7.heap.size := Nat.le_trans Z_3 Kr7.1
          obtain ⟨_, Tr8, Lr8, Xr8, hQr8, str8⟩ := ocallV Xr7 hx hZ zm7 zm7 hown (ww hw 69 rfl) (ww hw 70 rfl) (notFace_of_selects (args := #[]) (mvT hZ (ww hw 72 rfl))) (ww hw 72 rfl) (ww hw 71 rfl) (by decide) (ww hw 73 rfl) (ww hw 13 rfl) rfl f29 (rm8_17 l Z a0 hw [] br4 u1 b1 z1 k1 z2 Tr7.heap n0 Z_4 f30 f31 f32 f28 hs4 hs6 g2) (st := [(.int 0), (.ref u1), (.ref br4)]) rfl 0 rfl (by decide) (pc := 111) (Ls := (lc12 i0 i1 i2 i3 z1 z2 z3 0 0 0 u1 u2 u3 br4)) hml rfl (lenOf pd_4 rfl) at_111 hby
          obtain ⟨rfl, Nr8q, Kr8, f33⟩ := hQr8
          have N7 := Fr.app N6 Nr8q
          refine own_go (U' := Tr8.setTop (mkF m 118 (lc12 i0 i1 i2 i3 z1 z2 z3 0 0 0 u1 u2 u3 br4) [(.int z1), (.int z2)])) (fun t k => oastore Xr3 hx hby at_76 (lc9 i0 i1 i2 i3 z1 z2 z3 0 0 0 u1 u2 u3) rfl rfl (str4 _ (odup Xr4 hx hby at_81 rfl (str5 _ (oastore Xr5 hx hby at_85 (lc12 i0 i1 i2 i3 z1 z2 z3 0 0 0 u1 u2 u3 br4) rfl rfl (oaload Xr5 hx hby at_87 rfl rfl (oaload Xr5 hx hby at_89 rfl rfl (oiload Xr5 hx hby at_91 rfl (str6 _ (oaload Xr6 hx hby at_96 rfl rfl (oaload Xr6 hx hby at_98 rfl rfl (oiload Xr6 hx hby at_100 rfl (str7 _ (oaload Xr7 hx hby at_105 rfl rfl (oaload Xr7 hx hby at_107 rfl rfl (oiload Xr7 hx hby at_109 rfl (str8 _ (oiload Xr8 hx hby at_114 rfl (oiload Xr8 hx hby at_116 rfl k))))))))))))))))))) ?_
          have hc17 : (i1 &&& (7 : Int32)) = (i0 &&& (7 : Int32)) := (Int32.toInt_inj.mp (by have := congrArg Int32.toInt hk4; have := c_and i1 (7 : Int32) (by decide); have := (by decide : ((7 : Int32)).toInt = 7); have := c_and i0 (7 : Int32) (by decide); omega))
          have hs18 : z2 = z1 := by rw [hz2, hz1]; exact hc17
          refine own_go (U' := Tr8.setTop (mkF m 123 (lc12 i0 i1 i2 i3 z1 z2 z3 0 0 0 u1 u2 u3 br4) [(.int 0)])) (fun t k => oicN Xr8 hx hby at_118 (teq hs18).2 (oiload Xr8 hx hby at_121 rfl k)) ?_
          have Z_5 : n0 ≤ Tr8.heap.size := Nat.le_trans Z_4 Kr8.1
          obtain ⟨_, Tr9, Lr9, Xr9, hQr9, str9⟩ := ocallS Xr8 hx hZ zm9 hown (ww hw 83 rfl) (ww hw 84 rfl) (by decide) (ww hw 85 rfl) (ww hw 2 rfl) rfl (rm10_18 l Z a0 hw []  Tr8.heap n0 Z_5 ) (st := [(.int 0)]) rfl 0 rfl (by decide) (pc := 131) (Ls := (lc12 i0 i1 i2 i3 z1 z2 z3 0 0 0 u1 u2 u3 br4)) hml rfl (lenOf pd_5 rfl) at_131 hby
          obtain ⟨rfl, Nr9q, er9⟩ := hQr9
          have N8 := Fr.app N7 Nr9q
          obtain ⟨_, Tr10, Lr10, Xr10, hQr10, str10⟩ := ocallS Xr9 hx hZ zm9 hown (ww hw 83 rfl) (ww hw 84 rfl) (by decide) (ww hw 85 rfl) (ww hw 2 rfl) er9 (rm10_18 l Z a0 hw []  Tr8.heap n0 Z_5 ) (st := [(.int 0), (.int 0)]) rfl 1 rfl (by decide) (pc := 136) (Ls := (lc12 i0 i1 i2 i3 z1 z2 z3 0 0 0 u1 u2 u3 br4)) hml rfl (lenOf pd_5 rfl) at_136 hby
          obtain ⟨rfl, Nr10q, er10⟩ := hQr10
          have N9 := Fr.app N8 Nr10q
          obtain ⟨_, Tr11, Lr11, Xr11, hQr11, str11⟩ := ocallS Xr10 hx hZ zm9 hown (ww hw 83 rfl) (ww hw 84 rfl) (by decide) (ww hw 85 rfl) (ww hw 2 rfl) er10 (rm10_18 l Z a0 hw []  Tr8.heap n0 Z_5 ) (st := [(.int 0), (.int 0)]) rfl 1 rfl (by decide) (pc := 142) (Ls := (lc12 i0 i1 i2 i3 z1 z2 z3 0 0 0 u1 u2 u3 br4)) hml rfl (lenOf pd_5 rfl) at_142 hby
          obtain ⟨rfl, Nr11q, er11⟩ := hQr11
          have N10 := Fr.app N9 Nr11q
          refine own_go (U' := Tr11.setTop (mkF m 152 (lc14 i0 i1 i2 i3 z1 z2 z3 0 0 0 u1 u2 u3 br4 0) [(.int z3), (.int z2)])) (fun t k => oifY (pc := 123) Xr8 hx hby at_123 130 (by decide) (by decide) (oiconst Xr8 hx hby at_130 (str9 _ (oiload Xr9 hx hby at_134 rfl (str10 _ (oiadd Xr10 hx hby at_139 (oiload Xr10 hx hby at_140 rfl (str11 _ (oiadd Xr11 hx hby at_145 (oistore Xr11 hx hby at_146 (lc14 i0 i1 i2 i3 z1 z2 z3 0 0 0 u1 u2 u3 br4 0) rfl (oiload Xr11 hx hby at_148 rfl (oiload Xr11 hx hby at_150 rfl k)))))))))))) ?_
          by_cases hk5 : (i1 &&& (7 : Int32)) = (i2 &&& (7 : Int32))
          · have hc19 : (i1 &&& (7 : Int32)) = (i2 &&& (7 : Int32)) := hk5
            have hs20 : z2 = z3 := by rw [hz3, hz2]; exact hc19
            refine own_go (U' := Tr11.setTop (mkF m 157 (lc14 i0 i1 i2 i3 z1 z2 z3 0 0 0 u1 u2 u3 br4 0) [(.int 0)])) (fun t k => oicN Xr11 hx hby at_152 (teq hs20).2 (oiload Xr11 hx hby at_155 rfl k)) ?_
            obtain ⟨_, Tr12, Lr12, Xr12, hQr12, str12⟩ := ocallS Xr11 hx hZ zm9 hown (ww hw 83 rfl) (ww hw 84 rfl) (by decide) (ww hw 85 rfl) (ww hw 2 rfl) er11 (rm10_18 l Z a0 hw []  Tr8.heap n0 Z_5 ) (st := [(.int 0)]) rfl 0 rfl (by decide) (pc := 165) (Ls := (lc14 i0 i1 i2 i3 z1 z2 z3 0 0 0 u1 u2 u3 br4 0)) hml rfl (lenOf pd_5 rfl) at_165 hby
            obtain ⟨rfl, Nr12q, er12⟩ := hQr12
            have N11 := Fr.app N10 Nr12q
            refine own_go (U' := Tr12.setTop (mkF m 172 (lc14 i0 i1 i2 i3 z1 z2 z3 0 0 0 u1 u2 u3 br4 0) [(.int z3), (.int z1), (.int 0)])) (fun t k => oifY (pc := 157) Xr11 hx hby at_157 164 (by decide) (by decide) (oiconst Xr11 hx hby at_164 (str12 _ (oiload Xr12 hx hby at_168 rfl (oiload Xr12 hx hby at_170 rfl k))))) ?_
            have hc21 : (i0 &&& (7 : Int32)) = (i2 &&& (7 : Int32)) := (Int32.toInt_inj.mp (by have := congrArg Int32.toInt hk4; have := congrArg Int32.toInt hk5; have := c_and i0 (7 : Int32) (by decide); have := (by decide : ((7 : Int32)).toInt = 7); have := c_and i2 (7 : Int32) (by decide); have := c_and i1 (7 : Int32) (by decide); omega))
            have hs22 : z1 = z3 := by rw [hz3, hz1]; exact hc21
            refine own_go (U' := Tr12.setTop (mkF m 177 (lc14 i0 i1 i2 i3 z1 z2 z3 0 0 0 u1 u2 u3 br4 0) [(.int 0), (.int 0)])) (fun t k => oicN Xr12 hx hby at_172 (teq hs22).2 (oiload Xr12 hx hby at_175 rfl k)) ?_
            obtain ⟨_, Tr13, Lr13, Xr13, hQr13, str13⟩ := ocallS Xr12 hx hZ zm9 hown (ww hw 83 rfl) (ww hw 84 rfl) (by decide) (ww hw 85 rfl) (ww hw 2 rfl) er12 (rm10_18 l Z a0 hw []  Tr8.heap n0 Z_5 ) (st := [(.int 0), (.int 0)]) rfl 1 rfl (by decide) (pc := 185) (Ls := (lc14 i0 i1 i2 i3 z1 z2 z3 0 0 0 u1 u2 u3 br4 0)) hml rfl (lenOf pd_5 rfl) at_185 hby
            obtain ⟨rfl, Nr13q, er13⟩ := hQr13
            have N12 := Fr.app N11 Nr13q
            refine own_go (U' := Tr13.setTop (mkF m 193 (lc14 i0 i1 i2 i3 z1 z2 z3 0 0 0 u1 u2 u3 br4 0) [(.int z3), (.int z1), (.int 0)])) (fun t k => oifY (pc := 177) Xr12 hx hby at_177 184 (by decide) (by decide) (oiconst Xr12 hx hby at_184 (str13 _ (oiadd Xr13 hx hby at_188 (oiload Xr13 hx hby at_189 rfl (oiload Xr13 hx hby at_191 rfl k)))))) ?_
            refine own_go (U' := Tr13.setTop (mkF m 198 (lc14 i0 i1 i2 i3 z1 z2 z3 0 0 0 u1 u2 u3 br4 0) [(.int 0), (.int 0)])) (fun t k => oicN Xr13 hx hby at_193 (teq hs22).2 (oiload Xr13 hx hby at_196 rfl k)) ?_
            obtain ⟨_, Tr14, Lr14, Xr14, hQr14, str14⟩ := ocallS Xr13 hx hZ zm9 hown (ww hw 83 rfl) (ww hw 84 rfl) (by decide) (ww hw 85 rfl) (ww hw 2 rfl) er13 (rm10_18 l Z a0 hw []  Tr8.heap n0 Z_5 ) (st := [(.int 0), (.int 0)]) rfl 1 rfl (by decide) (pc := 206) (Ls := (lc14 i0 i1 i2 i3 z1 z2 z3 0 0 0 u1 u2 u3 br4 0)) hml rfl (lenOf pd_5 rfl) at_206 hby
            obtain ⟨rfl, Nr14q, er14⟩ := hQr14
            have N13 := Fr.app N12 Nr14q
            have f34 : Exa Z Tr8.heap br4 zs22 := (f29.keep Kr8)
            have f35 : Fld Z Tr8.heap br4 zs22 "counts" "[I" (.ref b1) := (f30.keep Kr8 (ninS ne3 nin0))
            have f36 : Exa Z Tr8.heap u1 zs0 := (f31.keep Kr8)
            have f37 : Fld Z Tr8.heap u1 zs26 "ordinal" "I" (.int z1) := (f32.keep Kr8 (ninS ne5 nin0))
            obtain ⟨_, Tr15, Lr15, Xr15, hQr15, str15⟩ := ocallV Xr14 hx hZ zm10 zm10 hown (ww hw 86 rfl) (ww hw 87 rfl) (notFace_of_selects (args := #[]) (mvT hZ (ww hw 89 rfl))) (ww hw 89 rfl) (ww hw 88 rfl) (by decide) (ww hw 90 rfl) (ww hw 13 rfl) er14 f34 (rm11_19 l Z a0 hw [] br4 u1 b1 z1 k1 z2 Tr8.heap n0 Z_5 f35 f36 f37 f33 hs4 hs6) (st := [(.ref u1), (.ref br4)]) rfl 0 rfl (by decide) (pc := 216) (Ls := (lc15 i0 i1 i2 i3 z1 z2 z3 0 0 0 u1 u2 u3 br4 0 0)) hml rfl (lenOf pd_6 rfl) at_216 hby
            obtain ⟨rfl, Nr15q, er15⟩ := hQr15
            have N14 := Fr.app N13 Nr15q
            refine own_go (U' := Tr15.setTop (mkF m 221 (lc15 i0 i1 i2 i3 z1 z2 z3 0 0 0 u1 u2 u3 br4 0 0) [(.int 0), (.int 0)])) (fun t k => oifY (pc := 198) Xr13 hx hby at_198 205 (by decide) (by decide) (oiconst Xr13 hx hby at_205 (str14 _ (oiadd Xr14 hx hby at_209 (oistore Xr14 hx hby at_210 (lc15 i0 i1 i2 i3 z1 z2 z3 0 0 0 u1 u2 u3 br4 0 0) rfl (oaload Xr14 hx hby at_212 rfl rfl (oaload Xr14 hx hby at_214 rfl rfl (str15 _ (oiload Xr15 hx hby at_219 rfl k))))))))) ?_
            have f38 : Exa Z Tr8.heap u3 zs0 := (((((Exa.ext Er4 f5).keep Kr5).keep Kr6).keep Kr7).keep Kr8)
            have ne6 : u3 ≠ br4 := Nat.ne_of_lt (Nat.lt_of_lt_of_le (f6.lt) (Nat.le_of_eq gr4.symm))
            have ne7 : u3 ≠ b1 := Nat.ne_of_lt (Nat.lt_of_lt_of_le (Nat.lt_of_lt_of_le (f6.lt) Er4.1) sz1)
            have f39 : Fld Z Tr8.heap u3 zs26 "ordinal" "I" (.int z3) := (((((Fld.ext Er4 f6).keep Kr5 (ninS ne6 nin0)).keep Kr6 (ninS ne7 nin0)).keep Kr7 (ninS ne7 nin0)).keep Kr8 (ninS ne7 nin0))
            have hc23 : (i2 &&& (7 : Int32)) = (i0 &&& (7 : Int32)) := (Int32.toInt_inj.mp (by have := congrArg Int32.toInt hk4; have := congrArg Int32.toInt hk5; have := c_and i2 (7 : Int32) (by decide); have := (by decide : ((7 : Int32)).toInt = 7); have := c_and i0 (7 : Int32) (by decide); have := c_and i1 (7 : Int32) (by decide); omega))
            have hs24 : z3 = z1 := by rw [hz3, hz1]; exact hc23
            obtain ⟨_, Tr16, Lr16, Xr16, hQr16, str16⟩ := ocallV Xr15 hx hZ zm10 zm10 hown (ww hw 86 rfl) (ww hw 87 rfl) (notFace_of_selects (args := #[]) (mvT hZ (ww hw 89 rfl))) (ww hw 89 rfl) (ww hw 88 rfl) (by decide) (ww hw 90 rfl) (ww hw 13 rfl) er15 f34 (rm11_20 l Z a0 hw [] br4 u3 b1 z3 k1 z1 z2 Tr8.heap n0 Z_5 f35 f38 f39 f33 hs12 hs14 hs24) (st := [(.ref u3), (.ref br4)]) rfl 0 rfl (by decide) (pc := 228) (Ls := (lc15 i0 i1 i2 i3 z1 z2 z3 0 0 0 u1 u2 u3 br4 0 0)) hml rfl (lenOf pd_6 rfl) at_228 hby
            obtain ⟨rfl, Nr16q, er16⟩ := hQr16
            have N15 := Fr.app N14 Nr16q
            refine own_go (U' := Tr16.setTop (mkF m 233 (lc15 i0 i1 i2 i3 z1 z2 z3 0 0 0 u1 u2 u3 br4 0 0) [(.int 0), (.int 0)])) (fun t k => oicN Xr15 hx hby at_221 (by decide) (oaload Xr15 hx hby at_224 rfl rfl (oaload Xr15 hx hby at_226 rfl rfl (str16 _ (oiload Xr16 hx hby at_231 rfl k))))) ?_
            refine own_go (U' := Tr16.setTop (mkF m 241 (lc15 i0 i1 i2 i3 z1 z2 z3 0 0 0 u1 u2 u3 br4 0 0) [(.int 1)])) (fun t k => oicN Xr16 hx hby at_233 (by decide) (oiconst Xr16 hx hby at_236 (ogoto (pc := 237) Xr16 hx hby at_237 241 (by decide) k))) ?_
            obtain ⟨fs, hr, hrun, hended, hW, hsame⟩ := Xr16.leave (v := some (.int 1)) (fun h => by rw [Bd.returns] at h; cases h)
            refine own_out ⟨_, _, ?_, hrun, hended, _, _, rfl, ?_, ⟨_, rfl⟩, hW, hsame.mono (by decide) (by decide)⟩
            · exact retN Xr16 hx (t := .boolean) Bd.returns (by simp) (hb hby at_241) hr
            · exact ⟨rfl, N15⟩
          · obtain ⟨_, Tr12, Lr12, Xr12, hQr12, str12⟩ := ocallS Xr11 hx hZ zm9 hown (ww hw 83 rfl) (ww hw 84 rfl) (by decide) (ww hw 85 rfl) (ww hw 2 rfl) er11 (rm10_18 l Z a0 hw []  Tr8.heap n0 Z_5 ) (st := [(.int 0)]) rfl 0 rfl (by decide) (pc := 165) (Ls := (lc14 i0 i1 i2 i3 z1 z2 z3 0 0 0 u1 u2 u3 br4 0)) hml rfl (lenOf pd_5 rfl) at_165 hby
            obtain ⟨rfl, Nr12q, er12⟩ := hQr12
            have N11 := Fr.app N10 Nr12q
            have hc25 : ¬ ((i1 &&& (7 : Int32)) = (i2 &&& (7 : Int32))) := hk5
            have hs26 : ¬ (z2 = z3) := by rw [hz3, hz2]; exact hc25
            refine own_go (U' := Tr12.setTop (mkF m 172 (lc14 i0 i1 i2 i3 z1 z2 z3 0 0 0 u1 u2 u3 br4 0) [(.int z3), (.int z1), (.int 0)])) (fun t k => oicY (pc := 152) Xr11 hx hby at_152 164 (feq hs26).2 (by decide) (oiconst Xr11 hx hby at_164 (str12 _ (oiload Xr12 hx hby at_168 rfl (oiload Xr12 hx hby at_170 rfl k))))) ?_
            obtain ⟨_, Tr13, Lr13, Xr13, hQr13, str13⟩ := ocallS Xr12 hx hZ zm9 hown (ww hw 83 rfl) (ww hw 84 rfl) (by decide) (ww hw 85 rfl) (ww hw 2 rfl) er12 (rm10_18 l Z a0 hw []  Tr8.heap n0 Z_5 ) (st := [(.int 0), (.int 0)]) rfl 1 rfl (by decide) (pc := 185) (Ls := (lc14 i0 i1 i2 i3 z1 z2 z3 0 0 0 u1 u2 u3 br4 0)) hml rfl (lenOf pd_5 rfl) at_185 hby
            obtain ⟨rfl, Nr13q, er13⟩ := hQr13
            have N12 := Fr.app N11 Nr13q
            have hc27 : ¬ ((i0 &&& (7 : Int32)) = (i2 &&& (7 : Int32))) := (fun e => by have := congrArg Int32.toInt e; have := congrArg Int32.toInt hk4; have : ¬ ((i1 &&& (7 : Int32))).toInt = ((i2 &&& (7 : Int32))).toInt := fun e => hk5 (Int32.toInt_inj.mp e); have := c_and i0 (7 : Int32) (by decide); have := (by decide : ((7 : Int32)).toInt = 7); have := c_and i2 (7 : Int32) (by decide); have := c_and i1 (7 : Int32) (by decide); omega)
            have hs28 : ¬ (z1 = z3) := by rw [hz3, hz1]; exact hc27
            refine own_go (U' := Tr13.setTop (mkF m 193 (lc14 i0 i1 i2 i3 z1 z2 z3 0 0 0 u1 u2 u3 br4 0) [(.int z3), (.int z1), (.int 0)])) (fun t k => oicY (pc := 172) Xr12 hx hby at_172 184 (feq hs28).2 (by decide) (oiconst Xr12 hx hby at_184 (str13 _ (oiadd Xr13 hx hby at_188 (oiload Xr13 hx hby at_189 rfl (oiload Xr13 hx hby at_191 rfl k)))))) ?_
            obtain ⟨_, Tr14, Lr14, Xr14, hQr14, str14⟩ := ocallS Xr13 hx hZ zm9 hown (ww hw 83 rfl) (ww hw 84 rfl) (by decide) (ww hw 85 rfl) (ww hw 2 rfl) er13 (rm10_18 l Z a0 hw []  Tr8.heap n0 Z_5 ) (st := [(.int 0), (.int 0)]) rfl 1 rfl (by decide) (pc := 206) (Ls := (lc14 i0 i1 i2 i3 z1 z2 z3 0 0 0 u1 u2 u3 br4 0)) hml rfl (lenOf pd_5 rfl) at_206 hby
            obtain ⟨rfl, Nr14q, er14⟩ := hQr14
            have N13 := Fr.app N12 Nr14q
            have f34 : Exa Z Tr8.heap br4 zs22 := (f29.keep Kr8)
            have f35 : Fld Z Tr8.heap br4 zs22 "counts" "[I" (.ref b1) := (f30.keep Kr8 (ninS ne3 nin0))
            have f36 : Exa Z Tr8.heap u1 zs0 := (f31.keep Kr8)
            have f37 : Fld Z Tr8.heap u1 zs26 "ordinal" "I" (.int z1) := (f32.keep Kr8 (ninS ne5 nin0))
            obtain ⟨_, Tr15, Lr15, Xr15, hQr15, str15⟩ := ocallV Xr14 hx hZ zm10 zm10 hown (ww hw 86 rfl) (ww hw 87 rfl) (notFace_of_selects (args := #[]) (mvT hZ (ww hw 89 rfl))) (ww hw 89 rfl) (ww hw 88 rfl) (by decide) (ww hw 90 rfl) (ww hw 13 rfl) er14 f34 (rm11_19 l Z a0 hw [] br4 u1 b1 z1 k1 z2 Tr8.heap n0 Z_5 f35 f36 f37 f33 hs4 hs6) (st := [(.ref u1), (.ref br4)]) rfl 0 rfl (by decide) (pc := 216) (Ls := (lc15 i0 i1 i2 i3 z1 z2 z3 0 0 0 u1 u2 u3 br4 0 0)) hml rfl (lenOf pd_6 rfl) at_216 hby
            obtain ⟨rfl, Nr15q, er15⟩ := hQr15
            have N14 := Fr.app N13 Nr15q
            refine own_go (U' := Tr15.setTop (mkF m 221 (lc15 i0 i1 i2 i3 z1 z2 z3 0 0 0 u1 u2 u3 br4 0 0) [(.int 0), (.int 0)])) (fun t k => oicY (pc := 193) Xr13 hx hby at_193 205 (feq hs28).2 (by decide) (oiconst Xr13 hx hby at_205 (str14 _ (oiadd Xr14 hx hby at_209 (oistore Xr14 hx hby at_210 (lc15 i0 i1 i2 i3 z1 z2 z3 0 0 0 u1 u2 u3 br4 0 0) rfl (oaload Xr14 hx hby at_212 rfl rfl (oaload Xr14 hx hby at_214 rfl rfl (str15 _ (oiload Xr15 hx hby at_219 rfl k))))))))) ?_
            have f38 : Exa Z Tr8.heap u3 zs0 := (((((Exa.ext Er4 f5).keep Kr5).keep Kr6).keep Kr7).keep Kr8)
            have ne6 : u3 ≠ br4 := Nat.ne_of_lt (Nat.lt_of_lt_of_le (f6.lt) (Nat.le_of_eq gr4.symm))
            have ne7 : u3 ≠ b1 := Nat.ne_of_lt (Nat.lt_of_lt_of_le (Nat.lt_of_lt_of_le (f6.lt) Er4.1) sz1)
            have f39 : Fld Z Tr8.heap u3 zs26 "ordinal" "I" (.int z3) := (((((Fld.ext Er4 f6).keep Kr5 (ninS ne6 nin0)).keep Kr6 (ninS ne7 nin0)).keep Kr7 (ninS ne7 nin0)).keep Kr8 (ninS ne7 nin0))
            have hc29 : ¬ ((i2 &&& (7 : Int32)) = (i0 &&& (7 : Int32))) := (fun e => by have := congrArg Int32.toInt e; have := congrArg Int32.toInt hk4; have : ¬ ((i1 &&& (7 : Int32))).toInt = ((i2 &&& (7 : Int32))).toInt := fun e => hk5 (Int32.toInt_inj.mp e); have := c_and i2 (7 : Int32) (by decide); have := (by decide : ((7 : Int32)).toInt = 7); have := c_and i0 (7 : Int32) (by decide); have := c_and i1 (7 : Int32) (by decide); omega)
            have hs30 : ¬ (z3 = z1) := by rw [hz3, hz1]; exact hc29
            have hc31 : ¬ ((i2 &&& (7 : Int32)) = (i1 &&& (7 : Int32))) := (fun e => by have := congrArg Int32.toInt e; have : ¬ ((i1 &&& (7 : Int32))).toInt = ((i2 &&& (7 : Int32))).toInt := fun e => hk5 (Int32.toInt_inj.mp e); have := c_and i2 (7 : Int32) (by decide); have := (by decide : ((7 : Int32)).toInt = 7); have := c_and i1 (7 : Int32) (by decide); omega)
            have hs32 : ¬ (z3 = z2) := by rw [hz3, hz2]; exact hc31
            obtain ⟨_, Tr16, Lr16, Xr16, hQr16, str16⟩ := ocallV Xr15 hx hZ zm10 zm10 hown (ww hw 86 rfl) (ww hw 87 rfl) (notFace_of_selects (args := #[]) (mvT hZ (ww hw 89 rfl))) (ww hw 89 rfl) (ww hw 88 rfl) (by decide) (ww hw 90 rfl) (ww hw 13 rfl) er15 f34 (rm11_21 l Z a0 hw [] br4 u3 b1 z3 k1 z1 z2 Tr8.heap n0 Z_5 f35 f38 f39 f33 hs12 hs14 hs30 hs32) (st := [(.ref u3), (.ref br4)]) rfl 0 rfl (by decide) (pc := 228) (Ls := (lc15 i0 i1 i2 i3 z1 z2 z3 0 0 0 u1 u2 u3 br4 0 0)) hml rfl (lenOf pd_6 rfl) at_228 hby
            obtain ⟨rfl, Nr16q, er16⟩ := hQr16
            have N15 := Fr.app N14 Nr16q
            refine own_go (U' := Tr16.setTop (mkF m 233 (lc15 i0 i1 i2 i3 z1 z2 z3 0 0 0 u1 u2 u3 br4 0 0) [(.int 0), (.int 0)])) (fun t k => oicN Xr15 hx hby at_221 (by decide) (oaload Xr15 hx hby at_224 rfl rfl (oaload Xr15 hx hby at_226 rfl rfl (str16 _ (oiload Xr16 hx hby at_231 rfl k))))) ?_
            refine own_go (U' := Tr16.setTop (mkF m 241 (lc15 i0 i1 i2 i3 z1 z2 z3 0 0 0 u1 u2 u3 br4 0 0) [(.int 1)])) (fun t k => oicN Xr16 hx hby at_233 (by decide) (oiconst Xr16 hx hby at_236 (ogoto (pc := 237) Xr16 hx hby at_237 241 (by decide) k))) ?_
            obtain ⟨fs, hr, hrun, hended, hW, hsame⟩ := Xr16.leave (v := some (.int 1)) (fun h => by rw [Bd.returns] at h; cases h)
            refine own_out ⟨_, _, ?_, hrun, hended, _, _, rfl, ?_, ⟨_, rfl⟩, hW, hsame.mono (by decide) (by decide)⟩
            · exact retN Xr16 hx (t := .boolean) Bd.returns (by simp) (hb hby at_241) hr
            · exact ⟨rfl, N15⟩
        · have hc33 : ¬ ((i0 &&& (7 : Int32)) = (i1 &&& (7 : Int32))) := hk4
          have hs34 : ¬ (z1 = z2) := by rw [hz2, hz1]; exact hc33
          obtain ⟨_, Tr7, Lr7, Xr7, hQr7, str7⟩ := ocallV Xr6 hx hZ zm7 zm7 hown (ww hw 69 rfl) (ww hw 70 rfl) (notFace_of_selects (args := #[]) (mvT hZ (ww hw 72 rfl))) (ww hw 72 rfl) (ww hw 71 rfl) (by decide) (ww hw 73 rfl) (ww hw 13 rfl) rfl f24 (rm8_22 l Z a0 hw [] br4 u1 b1 z1 k1 z2 Tr6.heap n0 Z_3 f25 f26 f27 f23 hs4 hs6 hs34 g2) (st := [(.int 0), (.ref u1), (.ref br4)]) rfl 0 rfl (by decide) (pc := 102) (Ls := (lc12 i0 i1 i2 i3 z1 z2 z3 0 0 0 u1 u2 u3 br4)) hml rfl (lenOf pd_4 rfl) at_102 hby
          obtain ⟨rfl, Nr7q, Kr7, f28⟩ := hQr7
          have N6 := Fr.app N5 Nr7q
          have f29 : Exa Z Tr7.heap br4 zs22 := (f24.keep Kr7)
          have f30 : Fld Z Tr7.heap br4 zs22 "counts" "[I" (.ref b1) := (f25.keep Kr7 (ninS ne3 nin0))
          have f31 : Exa Z Tr7.heap u1 zs0 := (f26.keep Kr7)
          have f32 : Fld Z Tr7.heap u1 zs26 "ordinal" "I" (.int z1) := (f27.keep Kr7 (ninS ne5 nin0))
          have Z_4 : n0 ≤ Tr7.heap.size := Nat.le_trans Z_3 Kr7.1
          obtain ⟨_, Tr8, Lr8, Xr8, hQr8, str8⟩ := ocallV Xr7 hx hZ zm7 zm7 hown (ww hw 69 rfl) (ww hw 70 rfl) (notFace_of_selects (args := #[]) (mvT hZ (ww hw 72 rfl))) (ww hw 72 rfl) (ww hw 71 rfl) (by decide) (ww hw 73 rfl) (ww hw 13 rfl) rfl f29 (rm8_17 l Z a0 hw [] br4 u1 b1 z1 k1 z2 Tr7.heap n0 Z_4 f30 f31 f32 f28 hs4 hs6 g2) (st := [(.int 0), (.ref u1), (.ref br4)]) rfl 0 rfl (by decide) (pc := 111) (Ls := (lc12 i0 i1 i2 i3 z1 z2 z3 0 0 0 u1 u2 u3 br4)) hml rfl (lenOf pd_4 rfl) at_111 hby
          obtain ⟨rfl, Nr8q, Kr8, f33⟩ := hQr8
          have N7 := Fr.app N6 Nr8q
          refine own_go (U' := Tr8.setTop (mkF m 118 (lc12 i0 i1 i2 i3 z1 z2 z3 0 0 0 u1 u2 u3 br4) [(.int z1), (.int z2)])) (fun t k => oastore Xr3 hx hby at_76 (lc9 i0 i1 i2 i3 z1 z2 z3 0 0 0 u1 u2 u3) rfl rfl (str4 _ (odup Xr4 hx hby at_81 rfl (str5 _ (oastore Xr5 hx hby at_85 (lc12 i0 i1 i2 i3 z1 z2 z3 0 0 0 u1 u2 u3 br4) rfl rfl (oaload Xr5 hx hby at_87 rfl rfl (oaload Xr5 hx hby at_89 rfl rfl (oiload Xr5 hx hby at_91 rfl (str6 _ (oaload Xr6 hx hby at_96 rfl rfl (oaload Xr6 hx hby at_98 rfl rfl (oiload Xr6 hx hby at_100 rfl (str7 _ (oaload Xr7 hx hby at_105 rfl rfl (oaload Xr7 hx hby at_107 rfl rfl (oiload Xr7 hx hby at_109 rfl (str8 _ (oiload Xr8 hx hby at_114 rfl (oiload Xr8 hx hby at_116 rfl k))))))))))))))))))) ?_
          have Z_5 : n0 ≤ Tr8.heap.size := Nat.le_trans Z_4 Kr8.1
          obtain ⟨_, Tr9, Lr9, Xr9, hQr9, str9⟩ := ocallS Xr8 hx hZ zm9 hown (ww hw 83 rfl) (ww hw 84 rfl) (by decide) (ww hw 85 rfl) (ww hw 2 rfl) rfl (rm10_18 l Z a0 hw []  Tr8.heap n0 Z_5 ) (st := [(.int 0)]) rfl 0 rfl (by decide) (pc := 131) (Ls := (lc12 i0 i1 i2 i3 z1 z2 z3 0 0 0 u1 u2 u3 br4)) hml rfl (lenOf pd_5 rfl) at_131 hby
          obtain ⟨rfl, Nr9q, er9⟩ := hQr9
          have N8 := Fr.app N7 Nr9q
          obtain ⟨_, Tr10, Lr10, Xr10, hQr10, str10⟩ := ocallS Xr9 hx hZ zm9 hown (ww hw 83 rfl) (ww hw 84 rfl) (by decide) (ww hw 85 rfl) (ww hw 2 rfl) er9 (rm10_18 l Z a0 hw []  Tr8.heap n0 Z_5 ) (st := [(.int 0), (.int 0)]) rfl 1 rfl (by decide) (pc := 136) (Ls := (lc12 i0 i1 i2 i3 z1 z2 z3 0 0 0 u1 u2 u3 br4)) hml rfl (lenOf pd_5 rfl) at_136 hby
          obtain ⟨rfl, Nr10q, er10⟩ := hQr10
          have N9 := Fr.app N8 Nr10q
          obtain ⟨_, Tr11, Lr11, Xr11, hQr11, str11⟩ := ocallS Xr10 hx hZ zm9 hown (ww hw 83 rfl) (ww hw 84 rfl) (by decide) (ww hw 85 rfl) (ww hw 2 rfl) er10 (rm10_18 l Z a0 hw []  Tr8.heap n0 Z_5 ) (st := [(.int 0), (.int 0)]) rfl 1 rfl (by decide) (pc := 142) (Ls := (lc12 i0 i1 i2 i3 z1 z2 z3 0 0 0 u1 u2 u3 br4)) hml rfl (lenOf pd_5 rfl) at_142 hby
          obtain ⟨rfl, Nr11q, er11⟩ := hQr11
          have N10 := Fr.app N9 Nr11q
          have hc35 : ¬ ((i1 &&& (7 : Int32)) = (i0 &&& (7 : Int32))) := (fun e => by have := congrArg Int32.toInt e; have : ¬ ((i0 &&& (7 : Int32))).toInt = ((i1 &&& (7 : Int32))).toInt := fun e => hk4 (Int32.toInt_inj.mp e); have := c_and i1 (7 : Int32) (by decide); have := (by decide : ((7 : Int32)).toInt = 7); have := c_and i0 (7 : Int32) (by decide); omega)
          have hs36 : ¬ (z2 = z1) := by rw [hz2, hz1]; exact hc35
          refine own_go (U' := Tr11.setTop (mkF m 152 (lc14 i0 i1 i2 i3 z1 z2 z3 0 0 0 u1 u2 u3 br4 0) [(.int z3), (.int z2)])) (fun t k => oicY (pc := 118) Xr8 hx hby at_118 130 (feq hs36).2 (by decide) (oiconst Xr8 hx hby at_130 (str9 _ (oiload Xr9 hx hby at_134 rfl (str10 _ (oiadd Xr10 hx hby at_139 (oiload Xr10 hx hby at_140 rfl (str11 _ (oiadd Xr11 hx hby at_145 (oistore Xr11 hx hby at_146 (lc14 i0 i1 i2 i3 z1 z2 z3 0 0 0 u1 u2 u3 br4 0) rfl (oiload Xr11 hx hby at_148 rfl (oiload Xr11 hx hby at_150 rfl k)))))))))))) ?_
          by_cases hk6 : (i1 &&& (7 : Int32)) = (i2 &&& (7 : Int32))
          · have hc19 : (i1 &&& (7 : Int32)) = (i2 &&& (7 : Int32)) := hk6
            have hs20 : z2 = z3 := by rw [hz3, hz2]; exact hc19
            refine own_go (U' := Tr11.setTop (mkF m 157 (lc14 i0 i1 i2 i3 z1 z2 z3 0 0 0 u1 u2 u3 br4 0) [(.int 0)])) (fun t k => oicN Xr11 hx hby at_152 (teq hs20).2 (oiload Xr11 hx hby at_155 rfl k)) ?_
            obtain ⟨_, Tr12, Lr12, Xr12, hQr12, str12⟩ := ocallS Xr11 hx hZ zm9 hown (ww hw 83 rfl) (ww hw 84 rfl) (by decide) (ww hw 85 rfl) (ww hw 2 rfl) er11 (rm10_18 l Z a0 hw []  Tr8.heap n0 Z_5 ) (st := [(.int 0)]) rfl 0 rfl (by decide) (pc := 165) (Ls := (lc14 i0 i1 i2 i3 z1 z2 z3 0 0 0 u1 u2 u3 br4 0)) hml rfl (lenOf pd_5 rfl) at_165 hby
            obtain ⟨rfl, Nr12q, er12⟩ := hQr12
            have N11 := Fr.app N10 Nr12q
            refine own_go (U' := Tr12.setTop (mkF m 172 (lc14 i0 i1 i2 i3 z1 z2 z3 0 0 0 u1 u2 u3 br4 0) [(.int z3), (.int z1), (.int 0)])) (fun t k => oifY (pc := 157) Xr11 hx hby at_157 164 (by decide) (by decide) (oiconst Xr11 hx hby at_164 (str12 _ (oiload Xr12 hx hby at_168 rfl (oiload Xr12 hx hby at_170 rfl k))))) ?_
            obtain ⟨_, Tr13, Lr13, Xr13, hQr13, str13⟩ := ocallS Xr12 hx hZ zm9 hown (ww hw 83 rfl) (ww hw 84 rfl) (by decide) (ww hw 85 rfl) (ww hw 2 rfl) er12 (rm10_18 l Z a0 hw []  Tr8.heap n0 Z_5 ) (st := [(.int 0), (.int 0)]) rfl 1 rfl (by decide) (pc := 185) (Ls := (lc14 i0 i1 i2 i3 z1 z2 z3 0 0 0 u1 u2 u3 br4 0)) hml rfl (lenOf pd_5 rfl) at_185 hby
            obtain ⟨rfl, Nr13q, er13⟩ := hQr13
            have N12 := Fr.app N11 Nr13q
            have hc27 : ¬ ((i0 &&& (7 : Int32)) = (i2 &&& (7 : Int32))) := (fun e => by have := congrArg Int32.toInt e; have : ¬ ((i0 &&& (7 : Int32))).toInt = ((i1 &&& (7 : Int32))).toInt := fun e => hk4 (Int32.toInt_inj.mp e); have := congrArg Int32.toInt hk6; have := c_and i0 (7 : Int32) (by decide); have := (by decide : ((7 : Int32)).toInt = 7); have := c_and i2 (7 : Int32) (by decide); have := c_and i1 (7 : Int32) (by decide); omega)
            have hs28 : ¬ (z1 = z3) := by rw [hz3, hz1]; exact hc27
            refine own_go (U' := Tr13.setTop (mkF m 193 (lc14 i0 i1 i2 i3 z1 z2 z3 0 0 0 u1 u2 u3 br4 0) [(.int z3), (.int z1), (.int 0)])) (fun t k => oicY (pc := 172) Xr12 hx hby at_172 184 (feq hs28).2 (by decide) (oiconst Xr12 hx hby at_184 (str13 _ (oiadd Xr13 hx hby at_188 (oiload Xr13 hx hby at_189 rfl (oiload Xr13 hx hby at_191 rfl k)))))) ?_
            obtain ⟨_, Tr14, Lr14, Xr14, hQr14, str14⟩ := ocallS Xr13 hx hZ zm9 hown (ww hw 83 rfl) (ww hw 84 rfl) (by decide) (ww hw 85 rfl) (ww hw 2 rfl) er13 (rm10_18 l Z a0 hw []  Tr8.heap n0 Z_5 ) (st := [(.int 0), (.int 0)]) rfl 1 rfl (by decide) (pc := 206) (Ls := (lc14 i0 i1 i2 i3 z1 z2 z3 0 0 0 u1 u2 u3 br4 0)) hml rfl (lenOf pd_5 rfl) at_206 hby
            obtain ⟨rfl, Nr14q, er14⟩ := hQr14
            have N13 := Fr.app N12 Nr14q
            have f34 : Exa Z Tr8.heap br4 zs22 := (f29.keep Kr8)
            have f35 : Fld Z Tr8.heap br4 zs22 "counts" "[I" (.ref b1) := (f30.keep Kr8 (ninS ne3 nin0))
            have f36 : Exa Z Tr8.heap u1 zs0 := (f31.keep Kr8)
            have f37 : Fld Z Tr8.heap u1 zs26 "ordinal" "I" (.int z1) := (f32.keep Kr8 (ninS ne5 nin0))
            obtain ⟨_, Tr15, Lr15, Xr15, hQr15, str15⟩ := ocallV Xr14 hx hZ zm10 zm10 hown (ww hw 86 rfl) (ww hw 87 rfl) (notFace_of_selects (args := #[]) (mvT hZ (ww hw 89 rfl))) (ww hw 89 rfl) (ww hw 88 rfl) (by decide) (ww hw 90 rfl) (ww hw 13 rfl) er14 f34 (rm11_19 l Z a0 hw [] br4 u1 b1 z1 k1 z2 Tr8.heap n0 Z_5 f35 f36 f37 f33 hs4 hs6) (st := [(.ref u1), (.ref br4)]) rfl 0 rfl (by decide) (pc := 216) (Ls := (lc15 i0 i1 i2 i3 z1 z2 z3 0 0 0 u1 u2 u3 br4 0 0)) hml rfl (lenOf pd_6 rfl) at_216 hby
            obtain ⟨rfl, Nr15q, er15⟩ := hQr15
            have N14 := Fr.app N13 Nr15q
            refine own_go (U' := Tr15.setTop (mkF m 221 (lc15 i0 i1 i2 i3 z1 z2 z3 0 0 0 u1 u2 u3 br4 0 0) [(.int 0), (.int 0)])) (fun t k => oicY (pc := 193) Xr13 hx hby at_193 205 (feq hs28).2 (by decide) (oiconst Xr13 hx hby at_205 (str14 _ (oiadd Xr14 hx hby at_209 (oistore Xr14 hx hby at_210 (lc15 i0 i1 i2 i3 z1 z2 z3 0 0 0 u1 u2 u3 br4 0 0) rfl (oaload Xr14 hx hby at_212 rfl rfl (oaload Xr14 hx hby at_214 rfl rfl (str15 _ (oiload Xr15 hx hby at_219 rfl k))))))))) ?_
            have f38 : Exa Z Tr8.heap u3 zs0 := (((((Exa.ext Er4 f5).keep Kr5).keep Kr6).keep Kr7).keep Kr8)
            have ne6 : u3 ≠ br4 := Nat.ne_of_lt (Nat.lt_of_lt_of_le (f6.lt) (Nat.le_of_eq gr4.symm))
            have ne7 : u3 ≠ b1 := Nat.ne_of_lt (Nat.lt_of_lt_of_le (Nat.lt_of_lt_of_le (f6.lt) Er4.1) sz1)
            have f39 : Fld Z Tr8.heap u3 zs26 "ordinal" "I" (.int z3) := (((((Fld.ext Er4 f6).keep Kr5 (ninS ne6 nin0)).keep Kr6 (ninS ne7 nin0)).keep Kr7 (ninS ne7 nin0)).keep Kr8 (ninS ne7 nin0))
            have hc29 : ¬ ((i2 &&& (7 : Int32)) = (i0 &&& (7 : Int32))) := (fun e => by have := congrArg Int32.toInt e; have : ¬ ((i0 &&& (7 : Int32))).toInt = ((i1 &&& (7 : Int32))).toInt := fun e => hk4 (Int32.toInt_inj.mp e); have := congrArg Int32.toInt hk6; have := c_and i2 (7 : Int32) (by decide); have := (by decide : ((7 : Int32)).toInt = 7); have := c_and i0 (7 : Int32) (by decide); have := c_and i1 (7 : Int32) (by decide); omega)
            have hs30 : ¬ (z3 = z1) := by rw [hz3, hz1]; exact hc29
            have hc37 : (i2 &&& (7 : Int32)) = (i1 &&& (7 : Int32)) := (Int32.toInt_inj.mp (by have := congrArg Int32.toInt hk6; have := c_and i2 (7 : Int32) (by decide); have := (by decide : ((7 : Int32)).toInt = 7); have := c_and i1 (7 : Int32) (by decide); omega))
            have hs38 : z3 = z2 := by rw [hz3, hz2]; exact hc37
            obtain ⟨_, Tr16, Lr16, Xr16, hQr16, str16⟩ := ocallV Xr15 hx hZ zm10 zm10 hown (ww hw 86 rfl) (ww hw 87 rfl) (notFace_of_selects (args := #[]) (mvT hZ (ww hw 89 rfl))) (ww hw 89 rfl) (ww hw 88 rfl) (by decide) (ww hw 90 rfl) (ww hw 13 rfl) er15 f34 (rm11_23 l Z a0 hw [] br4 u3 b1 z3 k1 z1 z2 Tr8.heap n0 Z_5 f35 f38 f39 f33 hs12 hs14 hs30 hs38) (st := [(.ref u3), (.ref br4)]) rfl 0 rfl (by decide) (pc := 228) (Ls := (lc15 i0 i1 i2 i3 z1 z2 z3 0 0 0 u1 u2 u3 br4 0 0)) hml rfl (lenOf pd_6 rfl) at_228 hby
            obtain ⟨rfl, Nr16q, er16⟩ := hQr16
            have N15 := Fr.app N14 Nr16q
            refine own_go (U' := Tr16.setTop (mkF m 233 (lc15 i0 i1 i2 i3 z1 z2 z3 0 0 0 u1 u2 u3 br4 0 0) [(.int 0), (.int 0)])) (fun t k => oicN Xr15 hx hby at_221 (by decide) (oaload Xr15 hx hby at_224 rfl rfl (oaload Xr15 hx hby at_226 rfl rfl (str16 _ (oiload Xr16 hx hby at_231 rfl k))))) ?_
            refine own_go (U' := Tr16.setTop (mkF m 241 (lc15 i0 i1 i2 i3 z1 z2 z3 0 0 0 u1 u2 u3 br4 0 0) [(.int 1)])) (fun t k => oicN Xr16 hx hby at_233 (by decide) (oiconst Xr16 hx hby at_236 (ogoto (pc := 237) Xr16 hx hby at_237 241 (by decide) k))) ?_
            obtain ⟨fs, hr, hrun, hended, hW, hsame⟩ := Xr16.leave (v := some (.int 1)) (fun h => by rw [Bd.returns] at h; cases h)
            refine own_out ⟨_, _, ?_, hrun, hended, _, _, rfl, ?_, ⟨_, rfl⟩, hW, hsame.mono (by decide) (by decide)⟩
            · exact retN Xr16 hx (t := .boolean) Bd.returns (by simp) (hb hby at_241) hr
            · exact ⟨rfl, N15⟩
          · obtain ⟨_, Tr12, Lr12, Xr12, hQr12, str12⟩ := ocallS Xr11 hx hZ zm9 hown (ww hw 83 rfl) (ww hw 84 rfl) (by decide) (ww hw 85 rfl) (ww hw 2 rfl) er11 (rm10_18 l Z a0 hw []  Tr8.heap n0 Z_5 ) (st := [(.int 0)]) rfl 0 rfl (by decide) (pc := 165) (Ls := (lc14 i0 i1 i2 i3 z1 z2 z3 0 0 0 u1 u2 u3 br4 0)) hml rfl (lenOf pd_5 rfl) at_165 hby
            obtain ⟨rfl, Nr12q, er12⟩ := hQr12
            have N11 := Fr.app N10 Nr12q
            have hc25 : ¬ ((i1 &&& (7 : Int32)) = (i2 &&& (7 : Int32))) := hk6
            have hs26 : ¬ (z2 = z3) := by rw [hz3, hz2]; exact hc25
            refine own_go (U' := Tr12.setTop (mkF m 172 (lc14 i0 i1 i2 i3 z1 z2 z3 0 0 0 u1 u2 u3 br4 0) [(.int z3), (.int z1), (.int 0)])) (fun t k => oicY (pc := 152) Xr11 hx hby at_152 164 (feq hs26).2 (by decide) (oiconst Xr11 hx hby at_164 (str12 _ (oiload Xr12 hx hby at_168 rfl (oiload Xr12 hx hby at_170 rfl k))))) ?_
            by_cases hk7 : (i0 &&& (7 : Int32)) = (i2 &&& (7 : Int32))
            · have hc21 : (i0 &&& (7 : Int32)) = (i2 &&& (7 : Int32)) := hk7
              have hs22 : z1 = z3 := by rw [hz3, hz1]; exact hc21
              refine own_go (U' := Tr12.setTop (mkF m 177 (lc14 i0 i1 i2 i3 z1 z2 z3 0 0 0 u1 u2 u3 br4 0) [(.int 0), (.int 0)])) (fun t k => oicN Xr12 hx hby at_172 (teq hs22).2 (oiload Xr12 hx hby at_175 rfl k)) ?_
              obtain ⟨_, Tr13, Lr13, Xr13, hQr13, str13⟩ := ocallS Xr12 hx hZ zm9 hown (ww hw 83 rfl) (ww hw 84 rfl) (by decide) (ww hw 85 rfl) (ww hw 2 rfl) er12 (rm10_18 l Z a0 hw []  Tr8.heap n0 Z_5 ) (st := [(.int 0), (.int 0)]) rfl 1 rfl (by decide) (pc := 185) (Ls := (lc14 i0 i1 i2 i3 z1 z2 z3 0 0 0 u1 u2 u3 br4 0)) hml rfl (lenOf pd_5 rfl) at_185 hby
              obtain ⟨rfl, Nr13q, er13⟩ := hQr13
              have N12 := Fr.app N11 Nr13q
              refine own_go (U' := Tr13.setTop (mkF m 193 (lc14 i0 i1 i2 i3 z1 z2 z3 0 0 0 u1 u2 u3 br4 0) [(.int z3), (.int z1), (.int 0)])) (fun t k => oifY (pc := 177) Xr12 hx hby at_177 184 (by decide) (by decide) (oiconst Xr12 hx hby at_184 (str13 _ (oiadd Xr13 hx hby at_188 (oiload Xr13 hx hby at_189 rfl (oiload Xr13 hx hby at_191 rfl k)))))) ?_
              refine own_go (U' := Tr13.setTop (mkF m 198 (lc14 i0 i1 i2 i3 z1 z2 z3 0 0 0 u1 u2 u3 br4 0) [(.int 0), (.int 0)])) (fun t k => oicN Xr13 hx hby at_193 (teq hs22).2 (oiload Xr13 hx hby at_196 rfl k)) ?_
              obtain ⟨_, Tr14, Lr14, Xr14, hQr14, str14⟩ := ocallS Xr13 hx hZ zm9 hown (ww hw 83 rfl) (ww hw 84 rfl) (by decide) (ww hw 85 rfl) (ww hw 2 rfl) er13 (rm10_18 l Z a0 hw []  Tr8.heap n0 Z_5 ) (st := [(.int 0), (.int 0)]) rfl 1 rfl (by decide) (pc := 206) (Ls := (lc14 i0 i1 i2 i3 z1 z2 z3 0 0 0 u1 u2 u3 br4 0)) hml rfl (lenOf pd_5 rfl) at_206 hby
              obtain ⟨rfl, Nr14q, er14⟩ := hQr14
              have N13 := Fr.app N12 Nr14q
              have f34 : Exa Z Tr8.heap br4 zs22 := (f29.keep Kr8)
              have f35 : Fld Z Tr8.heap br4 zs22 "counts" "[I" (.ref b1) := (f30.keep Kr8 (ninS ne3 nin0))
              have f36 : Exa Z Tr8.heap u1 zs0 := (f31.keep Kr8)
              have f37 : Fld Z Tr8.heap u1 zs26 "ordinal" "I" (.int z1) := (f32.keep Kr8 (ninS ne5 nin0))
              obtain ⟨_, Tr15, Lr15, Xr15, hQr15, str15⟩ := ocallV Xr14 hx hZ zm10 zm10 hown (ww hw 86 rfl) (ww hw 87 rfl) (notFace_of_selects (args := #[]) (mvT hZ (ww hw 89 rfl))) (ww hw 89 rfl) (ww hw 88 rfl) (by decide) (ww hw 90 rfl) (ww hw 13 rfl) er14 f34 (rm11_19 l Z a0 hw [] br4 u1 b1 z1 k1 z2 Tr8.heap n0 Z_5 f35 f36 f37 f33 hs4 hs6) (st := [(.ref u1), (.ref br4)]) rfl 0 rfl (by decide) (pc := 216) (Ls := (lc15 i0 i1 i2 i3 z1 z2 z3 0 0 0 u1 u2 u3 br4 0 0)) hml rfl (lenOf pd_6 rfl) at_216 hby
              obtain ⟨rfl, Nr15q, er15⟩ := hQr15
              have N14 := Fr.app N13 Nr15q
              refine own_go (U' := Tr15.setTop (mkF m 221 (lc15 i0 i1 i2 i3 z1 z2 z3 0 0 0 u1 u2 u3 br4 0 0) [(.int 0), (.int 0)])) (fun t k => oifY (pc := 198) Xr13 hx hby at_198 205 (by decide) (by decide) (oiconst Xr13 hx hby at_205 (str14 _ (oiadd Xr14 hx hby at_209 (oistore Xr14 hx hby at_210 (lc15 i0 i1 i2 i3 z1 z2 z3 0 0 0 u1 u2 u3 br4 0 0) rfl (oaload Xr14 hx hby at_212 rfl rfl (oaload Xr14 hx hby at_214 rfl rfl (str15 _ (oiload Xr15 hx hby at_219 rfl k))))))))) ?_
              have f38 : Exa Z Tr8.heap u3 zs0 := (((((Exa.ext Er4 f5).keep Kr5).keep Kr6).keep Kr7).keep Kr8)
              have ne6 : u3 ≠ br4 := Nat.ne_of_lt (Nat.lt_of_lt_of_le (f6.lt) (Nat.le_of_eq gr4.symm))
              have ne7 : u3 ≠ b1 := Nat.ne_of_lt (Nat.lt_of_lt_of_le (Nat.lt_of_lt_of_le (f6.lt) Er4.1) sz1)
              have f39 : Fld Z Tr8.heap u3 zs26 "ordinal" "I" (.int z3) := (((((Fld.ext Er4 f6).keep Kr5 (ninS ne6 nin0)).keep Kr6 (ninS ne7 nin0)).keep Kr7 (ninS ne7 nin0)).keep Kr8 (ninS ne7 nin0))
              have hc23 : (i2 &&& (7 : Int32)) = (i0 &&& (7 : Int32)) := (Int32.toInt_inj.mp (by have := congrArg Int32.toInt hk7; have := c_and i2 (7 : Int32) (by decide); have := (by decide : ((7 : Int32)).toInt = 7); have := c_and i0 (7 : Int32) (by decide); omega))
              have hs24 : z3 = z1 := by rw [hz3, hz1]; exact hc23
              obtain ⟨_, Tr16, Lr16, Xr16, hQr16, str16⟩ := ocallV Xr15 hx hZ zm10 zm10 hown (ww hw 86 rfl) (ww hw 87 rfl) (notFace_of_selects (args := #[]) (mvT hZ (ww hw 89 rfl))) (ww hw 89 rfl) (ww hw 88 rfl) (by decide) (ww hw 90 rfl) (ww hw 13 rfl) er15 f34 (rm11_20 l Z a0 hw [] br4 u3 b1 z3 k1 z1 z2 Tr8.heap n0 Z_5 f35 f38 f39 f33 hs12 hs14 hs24) (st := [(.ref u3), (.ref br4)]) rfl 0 rfl (by decide) (pc := 228) (Ls := (lc15 i0 i1 i2 i3 z1 z2 z3 0 0 0 u1 u2 u3 br4 0 0)) hml rfl (lenOf pd_6 rfl) at_228 hby
              obtain ⟨rfl, Nr16q, er16⟩ := hQr16
              have N15 := Fr.app N14 Nr16q
              refine own_go (U' := Tr16.setTop (mkF m 233 (lc15 i0 i1 i2 i3 z1 z2 z3 0 0 0 u1 u2 u3 br4 0 0) [(.int 0), (.int 0)])) (fun t k => oicN Xr15 hx hby at_221 (by decide) (oaload Xr15 hx hby at_224 rfl rfl (oaload Xr15 hx hby at_226 rfl rfl (str16 _ (oiload Xr16 hx hby at_231 rfl k))))) ?_
              refine own_go (U' := Tr16.setTop (mkF m 241 (lc15 i0 i1 i2 i3 z1 z2 z3 0 0 0 u1 u2 u3 br4 0 0) [(.int 1)])) (fun t k => oicN Xr16 hx hby at_233 (by decide) (oiconst Xr16 hx hby at_236 (ogoto (pc := 237) Xr16 hx hby at_237 241 (by decide) k))) ?_
              obtain ⟨fs, hr, hrun, hended, hW, hsame⟩ := Xr16.leave (v := some (.int 1)) (fun h => by rw [Bd.returns] at h; cases h)
              refine own_out ⟨_, _, ?_, hrun, hended, _, _, rfl, ?_, ⟨_, rfl⟩, hW, hsame.mono (by decide) (by decide)⟩
              · exact retN Xr16 hx (t := .boolean) Bd.returns (by simp) (hb hby at_241) hr
              · exact ⟨rfl, N15⟩
            · obtain ⟨_, Tr13, Lr13, Xr13, hQr13, str13⟩ := ocallS Xr12 hx hZ zm9 hown (ww hw 83 rfl) (ww hw 84 rfl) (by decide) (ww hw 85 rfl) (ww hw 2 rfl) er12 (rm10_18 l Z a0 hw []  Tr8.heap n0 Z_5 ) (st := [(.int 0), (.int 0)]) rfl 1 rfl (by decide) (pc := 185) (Ls := (lc14 i0 i1 i2 i3 z1 z2 z3 0 0 0 u1 u2 u3 br4 0)) hml rfl (lenOf pd_5 rfl) at_185 hby
              obtain ⟨rfl, Nr13q, er13⟩ := hQr13
              have N12 := Fr.app N11 Nr13q
              have hc27 : ¬ ((i0 &&& (7 : Int32)) = (i2 &&& (7 : Int32))) := hk7
              have hs28 : ¬ (z1 = z3) := by rw [hz3, hz1]; exact hc27
              refine own_go (U' := Tr13.setTop (mkF m 193 (lc14 i0 i1 i2 i3 z1 z2 z3 0 0 0 u1 u2 u3 br4 0) [(.int z3), (.int z1), (.int 0)])) (fun t k => oicY (pc := 172) Xr12 hx hby at_172 184 (feq hs28).2 (by decide) (oiconst Xr12 hx hby at_184 (str13 _ (oiadd Xr13 hx hby at_188 (oiload Xr13 hx hby at_189 rfl (oiload Xr13 hx hby at_191 rfl k)))))) ?_
              obtain ⟨_, Tr14, Lr14, Xr14, hQr14, str14⟩ := ocallS Xr13 hx hZ zm9 hown (ww hw 83 rfl) (ww hw 84 rfl) (by decide) (ww hw 85 rfl) (ww hw 2 rfl) er13 (rm10_18 l Z a0 hw []  Tr8.heap n0 Z_5 ) (st := [(.int 0), (.int 0)]) rfl 1 rfl (by decide) (pc := 206) (Ls := (lc14 i0 i1 i2 i3 z1 z2 z3 0 0 0 u1 u2 u3 br4 0)) hml rfl (lenOf pd_5 rfl) at_206 hby
              obtain ⟨rfl, Nr14q, er14⟩ := hQr14
              have N13 := Fr.app N12 Nr14q
              have f34 : Exa Z Tr8.heap br4 zs22 := (f29.keep Kr8)
              have f35 : Fld Z Tr8.heap br4 zs22 "counts" "[I" (.ref b1) := (f30.keep Kr8 (ninS ne3 nin0))
              have f36 : Exa Z Tr8.heap u1 zs0 := (f31.keep Kr8)
              have f37 : Fld Z Tr8.heap u1 zs26 "ordinal" "I" (.int z1) := (f32.keep Kr8 (ninS ne5 nin0))
              obtain ⟨_, Tr15, Lr15, Xr15, hQr15, str15⟩ := ocallV Xr14 hx hZ zm10 zm10 hown (ww hw 86 rfl) (ww hw 87 rfl) (notFace_of_selects (args := #[]) (mvT hZ (ww hw 89 rfl))) (ww hw 89 rfl) (ww hw 88 rfl) (by decide) (ww hw 90 rfl) (ww hw 13 rfl) er14 f34 (rm11_19 l Z a0 hw [] br4 u1 b1 z1 k1 z2 Tr8.heap n0 Z_5 f35 f36 f37 f33 hs4 hs6) (st := [(.ref u1), (.ref br4)]) rfl 0 rfl (by decide) (pc := 216) (Ls := (lc15 i0 i1 i2 i3 z1 z2 z3 0 0 0 u1 u2 u3 br4 0 0)) hml rfl (lenOf pd_6 rfl) at_216 hby
              obtain ⟨rfl, Nr15q, er15⟩ := hQr15
              have N14 := Fr.app N13 Nr15q
              refine own_go (U' := Tr15.setTop (mkF m 221 (lc15 i0 i1 i2 i3 z1 z2 z3 0 0 0 u1 u2 u3 br4 0 0) [(.int 0), (.int 0)])) (fun t k => oicY (pc := 193) Xr13 hx hby at_193 205 (feq hs28).2 (by decide) (oiconst Xr13 hx hby at_205 (str14 _ (oiadd Xr14 hx hby at_209 (oistore Xr14 hx hby at_210 (lc15 i0 i1 i2 i3 z1 z2 z3 0 0 0 u1 u2 u3 br4 0 0) rfl (oaload Xr14 hx hby at_212 rfl rfl (oaload Xr14 hx hby at_214 rfl rfl (str15 _ (oiload Xr15 hx hby at_219 rfl k))))))))) ?_
              have f38 : Exa Z Tr8.heap u3 zs0 := (((((Exa.ext Er4 f5).keep Kr5).keep Kr6).keep Kr7).keep Kr8)
              have ne6 : u3 ≠ br4 := Nat.ne_of_lt (Nat.lt_of_lt_of_le (f6.lt) (Nat.le_of_eq gr4.symm))
              have ne7 : u3 ≠ b1 := Nat.ne_of_lt (Nat.lt_of_lt_of_le (Nat.lt_of_lt_of_le (f6.lt) Er4.1) sz1)
              have f39 : Fld Z Tr8.heap u3 zs26 "ordinal" "I" (.int z3) := (((((Fld.ext Er4 f6).keep Kr5 (ninS ne6 nin0)).keep Kr6 (ninS ne7 nin0)).keep Kr7 (ninS ne7 nin0)).keep Kr8 (ninS ne7 nin0))
              have hc29 : ¬ ((i2 &&& (7 : Int32)) = (i0 &&& (7 : Int32))) := (fun e => by have := congrArg Int32.toInt e; have : ¬ ((i0 &&& (7 : Int32))).toInt = ((i2 &&& (7 : Int32))).toInt := fun e => hk7 (Int32.toInt_inj.mp e); have := c_and i2 (7 : Int32) (by decide); have := (by decide : ((7 : Int32)).toInt = 7); have := c_and i0 (7 : Int32) (by decide); omega)
              have hs30 : ¬ (z3 = z1) := by rw [hz3, hz1]; exact hc29
              have hc31 : ¬ ((i2 &&& (7 : Int32)) = (i1 &&& (7 : Int32))) := (fun e => by have := congrArg Int32.toInt e; have : ¬ ((i1 &&& (7 : Int32))).toInt = ((i2 &&& (7 : Int32))).toInt := fun e => hk6 (Int32.toInt_inj.mp e); have := c_and i2 (7 : Int32) (by decide); have := (by decide : ((7 : Int32)).toInt = 7); have := c_and i1 (7 : Int32) (by decide); omega)
              have hs32 : ¬ (z3 = z2) := by rw [hz3, hz2]; exact hc31
              obtain ⟨_, Tr16, Lr16, Xr16, hQr16, str16⟩ := ocallV Xr15 hx hZ zm10 zm10 hown (ww hw 86 rfl) (ww hw 87 rfl) (notFace_of_selects (args := #[]) (mvT hZ (ww hw 89 rfl))) (ww hw 89 rfl) (ww hw 88 rfl) (by decide) (ww hw 90 rfl) (ww hw 13 rfl) er15 f34 (rm11_21 l Z a0 hw [] br4 u3 b1 z3 k1 z1 z2 Tr8.heap n0 Z_5 f35 f38 f39 f33 hs12 hs14 hs30 hs32) (st := [(.ref u3), (.ref br4)]) rfl 0 rfl (by decide) (pc := 228) (Ls := (lc15 i0 i1 i2 i3 z1 z2 z3 0 0 0 u1 u2 u3 br4 0 0)) hml rfl (lenOf pd_6 rfl) at_228 hby
              obtain ⟨rfl, Nr16q, er16⟩ := hQr16
              have N15 := Fr.app N14 Nr16q
              refine own_go (U' := Tr16.setTop (mkF m 233 (lc15 i0 i1 i2 i3 z1 z2 z3 0 0 0 u1 u2 u3 br4 0 0) [(.int 0), (.int 0)])) (fun t k => oicN Xr15 hx hby at_221 (by decide) (oaload Xr15 hx hby at_224 rfl rfl (oaload Xr15 hx hby at_226 rfl rfl (str16 _ (oiload Xr16 hx hby at_231 rfl k))))) ?_
              refine own_go (U' := Tr16.setTop (mkF m 241 (lc15 i0 i1 i2 i3 z1 z2 z3 0 0 0 u1 u2 u3 br4 0 0) [(.int 1)])) (fun t k => oicN Xr16 hx hby at_233 (by decide) (oiconst Xr16 hx hby at_236 (ogoto (pc := 237) Xr16 hx hby at_237 241 (by decide) k))) ?_
              obtain ⟨fs, hr, hrun, hended, hW, hsame⟩ := Xr16.leave (v := some (.int 1)) (fun h => by rw [Bd.returns] at h; cases h)
              refine own_out ⟨_, _, ?_, hrun, hended, _, _, rfl, ?_, ⟨_, rfl⟩, hW, hsame.mono (by decide) (by decide)⟩
              · exact retN Xr16 hx (t := .boolean) Bd.returns (by simp) (hb hby at_241) hr
              · exact ⟨rfl, N15⟩
      · obtain ⟨_, Tr1, Lr1, Xr1, hQr1, str1⟩ := ocallS X0 hx hZ zm0 hown (ww hw 0 rfl) (ww hw 1 rfl) (by decide) (ww hw 3 rfl) (ww hw 2 rfl) e0 (mg1_8 l Z a0 hw [] z1 w0 w4 w2 w1 w5 w6 w7 w8 h0 n0 Z0 S0 S8 S4 S2 S10 S12 S14 S16) (st := [(.int z1)]) rfl 0 rfl (by decide) (pc := 59) (Ls := (lc5 i0 i1 i2 i3 z1 z2 z3 0 0 1)) hml rfl (lenOf pd_0 rfl) at_59 hby
        obtain ⟨rfl, Nr1q, er1⟩ := hQr1
        have hc39 : ¬ ((i3 &&& (4 : Int32)) = (0 : Int32)) := hk3
        refine own_go (U' := Tr1.setTop (mkF m 62 (lc5 i0 i1 i2 i3 z1 z2 z3 0 0 1) [(.ref (own_pick z1 w0 w4 w2 w1 w5 w6 w7 w8))])) (fun t k => oifN X0 hx hby at_47 ((if0 _ _).trans (feq hc39).1) (oiconst X0 hx hby at_50 (ogoto (pc := 51) X0 hx hby at_51 55 (by decide) (oistore X0 hx hby at_55 (lc5 i0 i1 i2 i3 z1 z2 z3 0 0 1) rfl (oiload X0 hx hby at_57 rfl (str1 _ k)))))) ?_
        obtain ⟨u1, hu1⟩ : ∃ z, z = (own_pick z1 w0 w4 w2 w1 w5 w6 w7 w8) := ⟨_, rfl⟩
        rw [← hu1]
        have f1 : Exa Z h0 u1 zs0 := by rw [hu1]; exact own_pick_E S1 S9 S5 S3 S11 S13 S15 S17
        have hc3 : ¬ ((i0 &&& (7 : Int32)) < (0 : Int32)) := (fun e => by have := Int32.lt_iff_toInt_lt.mp e; have := c_and i0 (7 : Int32) (by decide); have := (by decide : ((7 : Int32)).toInt = 7); have := (by decide : ((0 : Int32)).toInt = 0); omega)
        have hs4 : ¬ (z1 < (0 : Int32)) := by rw [hz1]; exact hc3
        have hc5 : (i0 &&& (7 : Int32)) < (8 : Int32) := (Int32.lt_iff_toInt_lt.mpr (by have := c_and i0 (7 : Int32) (by decide); have := (by decide : ((7 : Int32)).toInt = 7); have := (by decide : ((8 : Int32)).toInt = 8); omega))
        have hs6 : z1 < (8 : Int32) := by rw [hz1]; exact hc5
        have f2 : Fld Z h0 u1 zs26 "ordinal" "I" (.int z1) := by rw [hu1]; exact own_pick_O S19 S24 S20 S18 S21 S25 S23 S22 hs4 hs6
        have N1 := Fr.app N0 Nr1q
        obtain ⟨_, Tr2, Lr2, Xr2, hQr2, str2⟩ := ocallS Xr1 hx hZ zm0 hown (ww hw 0 rfl) (ww hw 1 rfl) (by decide) (ww hw 3 rfl) (ww hw 2 rfl) er1 (mg1_8 l Z a0 hw [] z2 w0 w4 w2 w1 w5 w6 w7 w8 h0 n0 Z0 S0 S8 S4 S2 S10 S12 S14 S16) (st := [(.int z2)]) rfl 0 rfl (by decide) (pc := 66) (Ls := (lc7 i0 i1 i2 i3 z1 z2 z3 0 0 1 u1)) hml rfl (lenOf pd_0 rfl) at_66 hby
        obtain ⟨rfl, Nr2q, er2⟩ := hQr2
        refine own_go (U' := Tr2.setTop (mkF m 69 (lc7 i0 i1 i2 i3 z1 z2 z3 0 0 1 u1) [(.ref (own_pick z2 w0 w4 w2 w1 w5 w6 w7 w8))])) (fun t k => oastore Xr1 hx hby at_62 (lc7 i0 i1 i2 i3 z1 z2 z3 0 0 1 u1) rfl rfl (oiload Xr1 hx hby at_64 rfl (str2 _ k))) ?_
        obtain ⟨u2, hu2⟩ : ∃ z, z = (own_pick z2 w0 w4 w2 w1 w5 w6 w7 w8) := ⟨_, rfl⟩
        rw [← hu2]
        have f3 : Exa Z h0 u2 zs0 := by rw [hu2]; exact own_pick_E S1 S9 S5 S3 S11 S13 S15 S17
        have hc7 : ¬ ((i1 &&& (7 : Int32)) < (0 : Int32)) := (fun e => by have := Int32.lt_iff_toInt_lt.mp e; have := c_and i1 (7 : Int32) (by decide); have := (by decide : ((7 : Int32)).toInt = 7); have := (by decide : ((0 : Int32)).toInt = 0); omega)
        have hs8 : ¬ (z2 < (0 : Int32)) := by rw [hz2]; exact hc7
        have hc9 : (i1 &&& (7 : Int32)) < (8 : Int32) := (Int32.lt_iff_toInt_lt.mpr (by have := c_and i1 (7 : Int32) (by decide); have := (by decide : ((7 : Int32)).toInt = 7); have := (by decide : ((8 : Int32)).toInt = 8); omega))
        have hs10 : z2 < (8 : Int32) := by rw [hz2]; exact hc9
        have f4 : Fld Z h0 u2 zs26 "ordinal" "I" (.int z2) := by rw [hu2]; exact own_pick_O S19 S24 S20 S18 S21 S25 S23 S22 hs8 hs10
        have N2 := Fr.app N1 Nr2q
        obtain ⟨_, Tr3, Lr3, Xr3, hQr3, str3⟩ := ocallS Xr2 hx hZ zm0 hown (ww hw 0 rfl) (ww hw 1 rfl) (by decide) (ww hw 3 rfl) (ww hw 2 rfl) er2 (mg1_8 l Z a0 hw [] z3 w0 w4 w2 w1 w5 w6 w7 w8 h0 n0 Z0 S0 S8 S4 S2 S10 S12 S14 S16) (st := [(.int z3)]) rfl 0 rfl (by decide) (pc := 73) (Ls := (lc8 i0 i1 i2 i3 z1 z2 z3 0 0 1 u1 u2)) hml rfl (lenOf pd_0 rfl) at_73 hby
        obtain ⟨rfl, Nr3q, er3⟩ := hQr3
        refine own_go (U' := Tr3.setTop (mkF m 76 (lc8 i0 i1 i2 i3 z1 z2 z3 0 0 1 u1 u2) [(.ref (own_pick z3 w0 w4 w2 w1 w5 w6 w7 w8))])) (fun t k => oastore Xr2 hx hby at_69 (lc8 i0 i1 i2 i3 z1 z2 z3 0 0 1 u1 u2) rfl rfl (oiload Xr2 hx hby at_71 rfl (str3 _ k))) ?_
        obtain ⟨u3, hu3⟩ : ∃ z, z = (own_pick z3 w0 w4 w2 w1 w5 w6 w7 w8) := ⟨_, rfl⟩
        rw [← hu3]
        have f5 : Exa Z h0 u3 zs0 := by rw [hu3]; exact own_pick_E S1 S9 S5 S3 S11 S13 S15 S17
        have hc11 : ¬ ((i2 &&& (7 : Int32)) < (0 : Int32)) := (fun e => by have := Int32.lt_iff_toInt_lt.mp e; have := c_and i2 (7 : Int32) (by decide); have := (by decide : ((7 : Int32)).toInt = 7); have := (by decide : ((0 : Int32)).toInt = 0); omega)
        have hs12 : ¬ (z3 < (0 : Int32)) := by rw [hz3]; exact hc11
        have hc13 : (i2 &&& (7 : Int32)) < (8 : Int32) := (Int32.lt_iff_toInt_lt.mpr (by have := c_and i2 (7 : Int32) (by decide); have := (by decide : ((7 : Int32)).toInt = 7); have := (by decide : ((8 : Int32)).toInt = 8); omega))
        have hs14 : z3 < (8 : Int32) := by rw [hz3]; exact hc13
        have f6 : Fld Z h0 u3 zs26 "ordinal" "I" (.int z3) := by rw [hu3]; exact own_pick_O S19 S24 S20 S18 S21 S25 S23 S22 hs12 hs14
        have N3 := Fr.app N2 Nr3q
        obtain ⟨Tr4, hr4, Xr4, er4, Er4, Ar4, Dr4, -, str4⟩ := newO Xr3 hx hZ hown (ww hw 11 rfl) (ww hw 12 rfl) (ww hw 13 rfl) er3 (g := (mkF m 78 (lc9 i0 i1 i2 i3 z1 z2 z3 0 0 1 u1 u2 u3) [])) rfl (hb hby at_78) (by decide) (by decide)
        obtain ⟨br4, gr4⟩ : ∃ z, z = h0.size := ⟨_, rfl⟩
        rw [← gr4] at Ar4 Dr4 str4
        have f7 : Fld Z hr4 br4 zs22 "counts" "[I" .null := Dr4 (Or.inr (ww hw 42 rfl)) (ty := (.array .int)) (by decide)
        have f8 : Fld Z hr4 br4 zs22 zs23 zs24 .null := Dr4 (Or.inr (ww hw 68 rfl)) (ty := (.object zs25)) (by decide)
        have f9 : Sta Z hr4 zs0 "$VALUES" zs12 (.ref w3) := (Sta.ext Er4 S6)
        have f10 : Arv Z hr4 w3 kl0 (.object zs0) (8 : Int32) [(.ref w0), (.ref w4), (.ref w2), (.ref w1), (.ref w5), (.ref w6), (.ref w7), (.ref w8)] .null := (S30.ext Er4)
        have f11 : Exa Z hr4 w3 zs12 := (Exa.ext Er4 S7)
        have g1 : n0 ≤ br4 := Nat.le_trans Z0 (Nat.le_of_eq gr4.symm)
        have f12 : Sta Z hr4 zs17 zs21 zs19 (.ref w10) := (Sta.ext Er4 S28)
        have Z_1 : n0 ≤ hr4.size := Nat.le_trans Z0 Er4.1
        obtain ⟨_, Tr5, Lr5, Xr5, hQr5, str5⟩ := ocallI Xr4 hx hZ zm5 rfl hown (ww hw 14 rfl) (ww hw 15 rfl) (by decide) (ww hw 16 rfl) (ww hw 13 rfl) er4 (rm2_13 l Z a0 hw [] br4 w3 w0 w4 w2 w1 w5 w6 w7 w8 kl0 w10 hr4 n0 Z_1 f9 f10 f11 f7 f8 Ar4 g1 f12) (st := [(.ref br4), (.ref br4)]) rfl 1 rfl (by decide) (pc := 82) (Ls := (lc9 i0 i1 i2 i3 z1 z2 z3 0 0 1 u1 u2 u3)) hml rfl (lenOf pd_2 rfl) at_82 hby
        obtain ⟨b1, b2, k1, rfl, Nr5q, Kr5, sz1, sz2, ne1, f13, f14, f15, f16, f17, f18, f19⟩ := hQr5
        have N4 := Fr.app N3 Nr5q
        have f20 : Exa Z Tr5.heap br4 zs22 := (Ar4.keep Kr5)
        have f21 : Exa Z Tr5.heap u2 zs0 := ((Exa.ext Er4 f3).keep Kr5)
        have ne2 : u2 ≠ br4 := Nat.ne_of_lt (Nat.lt_of_lt_of_le (f4.lt) (Nat.le_of_eq gr4.symm))
        have f22 : Fld Z Tr5.heap u2 zs26 "ordinal" "I" (.int z2) := ((Fld.ext Er4 f4).keep Kr5 (ninS ne2 nin0))
        have g2 : n0 ≤ b1 := Nat.le_trans Z_1 sz1
        have Z_2 : n0 ≤ Tr5.heap.size := Nat.le_trans Z_1 Kr5.1
        obtain ⟨_, Tr6, Lr6, Xr6, hQr6, str6⟩ := ocallV Xr5 hx hZ zm7 zm7 hown (ww hw 69 rfl) (ww hw 70 rfl) (notFace_of_selects (args := #[]) (mvT hZ (ww hw 72 rfl))) (ww hw 72 rfl) (ww hw 71 rfl) (by decide) (ww hw 73 rfl) (ww hw 13 rfl) rfl f20 (rm8_15 l Z a0 hw [] br4 u2 b1 z2 k1 Tr5.heap n0 Z_2 f13 f21 f22 f16 hs8 hs10 g2) (st := [(.int 0), (.ref u2), (.ref br4)]) rfl 0 rfl (by decide) (pc := 93) (Ls := (lc12 i0 i1 i2 i3 z1 z2 z3 0 0 1 u1 u2 u3 br4)) hml rfl (lenOf pd_4 rfl) at_93 hby
        obtain ⟨rfl, Nr6q, Kr6, f23⟩ := hQr6
        have N5 := Fr.app N4 Nr6q
        have f24 : Exa Z Tr6.heap br4 zs22 := (f20.keep Kr6)
        have ne3 : br4 ≠ b1 := Nat.ne_of_lt (Nat.lt_of_lt_of_le (f7.lt) sz1)
        have f25 : Fld Z Tr6.heap br4 zs22 "counts" "[I" (.ref b1) := (f13.keep Kr6 (ninS ne3 nin0))
        have f26 : Exa Z Tr6.heap u1 zs0 := (((Exa.ext Er4 f1).keep Kr5).keep Kr6)
        have ne4 : u1 ≠ br4 := Nat.ne_of_lt (Nat.lt_of_lt_of_le (f2.lt) (Nat.le_of_eq gr4.symm))
        have ne5 : u1 ≠ b1 := Nat.ne_of_lt (Nat.lt_of_lt_of_le (Nat.lt_of_lt_of_le (f2.lt) Er4.1) sz1)
        have f27 : Fld Z Tr6.heap u1 zs26 "ordinal" "I" (.int z1) := (((Fld.ext Er4 f2).keep Kr5 (ninS ne4 nin0)).keep Kr6 (ninS ne5 nin0))
        have Z_3 : n0 ≤ Tr6.heap.size := Nat.le_trans Z_2 Kr6.1
        by_cases hk8 : (i0 &&& (7 : Int32)) = (i1 &&& (7 : Int32))
        · have hc15 : (i0 &&& (7 : Int32)) = (i1 &&& (7 : Int32)) := hk8
          have hs16 : z1 = z2 := by rw [hz2, hz1]; exact hc15
          obtain ⟨_, Tr7, Lr7, Xr7, hQr7, str7⟩ := ocallV Xr6 hx hZ zm7 zm7 hown (ww hw 69 rfl) (ww hw 70 rfl) (notFace_of_selects (args := #[]) (mvT hZ (ww hw 72 rfl))) (ww hw 72 rfl) (ww hw 71 rfl) (by decide) (ww hw 73 rfl) (ww hw 13 rfl) rfl f24 (rm8_16 l Z a0 hw [] br4 u1 b1 z1 k1 z2 Tr6.heap n0 Z_3 f25 f26 f27 f23 hs4 hs6 hs16 g2) (st := [(.int 0), (.ref u1), (.ref br4)]) rfl 0 rfl (by decide) (pc := 102) (Ls := (lc12 i0 i1 i2 i3 z1 z2 z3 0 0 1 u1 u2 u3 br4)) hml rfl (lenOf pd_4 rfl) at_102 hby
          obtain ⟨rfl, Nr7q, Kr7, f28⟩ := hQr7
          have N6 := Fr.app N5 Nr7q
          have f29 : Exa Z Tr7.heap br4 zs22 := (f24.keep Kr7)
          have f30 : Fld Z Tr7.heap br4 zs22 "counts" "[I" (.ref b1) := (f25.keep Kr7 (ninS ne3 nin0))
          have f31 : Exa Z Tr7.heap u1 zs0 := (f26.keep Kr7)
          have f32 : Fld Z Tr7.heap u1 zs26 "ordinal" "I" (.int z1) := (f27.keep Kr7 (ninS ne5 nin0))
          have Z_4 : n0 ≤ Tr7.heap.size := Nat.le_trans Z_3 Kr7.1
          obtain ⟨_, Tr8, Lr8, Xr8, hQr8, str8⟩ := ocallV Xr7 hx hZ zm7 zm7 hown (ww hw 69 rfl) (ww hw 70 rfl) (notFace_of_selects (args := #[]) (mvT hZ (ww hw 72 rfl))) (ww hw 72 rfl) (ww hw 71 rfl) (by decide) (ww hw 73 rfl) (ww hw 13 rfl) rfl f29 (rm8_24 l Z a0 hw [] br4 u1 b1 z1 k1 z2 Tr7.heap n0 Z_4 f30 f31 f32 f28 hs4 hs6 g2) (st := [(.int 1), (.ref u1), (.ref br4)]) rfl 0 rfl (by decide) (pc := 111) (Ls := (lc12 i0 i1 i2 i3 z1 z2 z3 0 0 1 u1 u2 u3 br4)) hml rfl (lenOf pd_4 rfl) at_111 hby
          obtain ⟨rfl, Nr8q, Kr8, f33⟩ := hQr8
          have N7 := Fr.app N6 Nr8q
          refine own_go (U' := Tr8.setTop (mkF m 118 (lc12 i0 i1 i2 i3 z1 z2 z3 0 0 1 u1 u2 u3 br4) [(.int z1), (.int z2)])) (fun t k => oastore Xr3 hx hby at_76 (lc9 i0 i1 i2 i3 z1 z2 z3 0 0 1 u1 u2 u3) rfl rfl (str4 _ (odup Xr4 hx hby at_81 rfl (str5 _ (oastore Xr5 hx hby at_85 (lc12 i0 i1 i2 i3 z1 z2 z3 0 0 1 u1 u2 u3 br4) rfl rfl (oaload Xr5 hx hby at_87 rfl rfl (oaload Xr5 hx hby at_89 rfl rfl (oiload Xr5 hx hby at_91 rfl (str6 _ (oaload Xr6 hx hby at_96 rfl rfl (oaload Xr6 hx hby at_98 rfl rfl (oiload Xr6 hx hby at_100 rfl (str7 _ (oaload Xr7 hx hby at_105 rfl rfl (oaload Xr7 hx hby at_107 rfl rfl (oiload Xr7 hx hby at_109 rfl (str8 _ (oiload Xr8 hx hby at_114 rfl (oiload Xr8 hx hby at_116 rfl k))))))))))))))))))) ?_
          have hc17 : (i1 &&& (7 : Int32)) = (i0 &&& (7 : Int32)) := (Int32.toInt_inj.mp (by have := congrArg Int32.toInt hk8; have := c_and i1 (7 : Int32) (by decide); have := (by decide : ((7 : Int32)).toInt = 7); have := c_and i0 (7 : Int32) (by decide); omega))
          have hs18 : z2 = z1 := by rw [hz2, hz1]; exact hc17
          refine own_go (U' := Tr8.setTop (mkF m 123 (lc12 i0 i1 i2 i3 z1 z2 z3 0 0 1 u1 u2 u3 br4) [(.int 0)])) (fun t k => oicN Xr8 hx hby at_118 (teq hs18).2 (oiload Xr8 hx hby at_121 rfl k)) ?_
          have Z_5 : n0 ≤ Tr8.heap.size := Nat.le_trans Z_4 Kr8.1
          obtain ⟨_, Tr9, Lr9, Xr9, hQr9, str9⟩ := ocallS Xr8 hx hZ zm9 hown (ww hw 83 rfl) (ww hw 84 rfl) (by decide) (ww hw 85 rfl) (ww hw 2 rfl) rfl (rm10_18 l Z a0 hw []  Tr8.heap n0 Z_5 ) (st := [(.int 0)]) rfl 0 rfl (by decide) (pc := 131) (Ls := (lc12 i0 i1 i2 i3 z1 z2 z3 0 0 1 u1 u2 u3 br4)) hml rfl (lenOf pd_5 rfl) at_131 hby
          obtain ⟨rfl, Nr9q, er9⟩ := hQr9
          have N8 := Fr.app N7 Nr9q
          obtain ⟨_, Tr10, Lr10, Xr10, hQr10, str10⟩ := ocallS Xr9 hx hZ zm9 hown (ww hw 83 rfl) (ww hw 84 rfl) (by decide) (ww hw 85 rfl) (ww hw 2 rfl) er9 (rm10_18 l Z a0 hw []  Tr8.heap n0 Z_5 ) (st := [(.int 0), (.int 0)]) rfl 1 rfl (by decide) (pc := 136) (Ls := (lc12 i0 i1 i2 i3 z1 z2 z3 0 0 1 u1 u2 u3 br4)) hml rfl (lenOf pd_5 rfl) at_136 hby
          obtain ⟨rfl, Nr10q, er10⟩ := hQr10
          have N9 := Fr.app N8 Nr10q
          obtain ⟨_, Tr11, Lr11, Xr11, hQr11, str11⟩ := ocallS Xr10 hx hZ zm9 hown (ww hw 83 rfl) (ww hw 84 rfl) (by decide) (ww hw 85 rfl) (ww hw 2 rfl) er10 (rm10_25 l Z a0 hw []  Tr8.heap n0 Z_5 ) (st := [(.int 1), (.int 0)]) rfl 1 rfl (by decide) (pc := 142) (Ls := (lc12 i0 i1 i2 i3 z1 z2 z3 0 0 1 u1 u2 u3 br4)) hml rfl (lenOf pd_5 rfl) at_142 hby
          obtain ⟨rfl, Nr11q, er11⟩ := hQr11
          have N10 := Fr.app N9 Nr11q
          refine own_go (U' := Tr11.setTop (mkF m 152 (lc14 i0 i1 i2 i3 z1 z2 z3 0 0 1 u1 u2 u3 br4 1) [(.int z3), (.int z2)])) (fun t k => oifY (pc := 123) Xr8 hx hby at_123 130 (by decide) (by decide) (oiconst Xr8 hx hby at_130 (str9 _ (oiload Xr9 hx hby at_134 rfl (str10 _ (oiadd Xr10 hx hby at_139 (oiload Xr10 hx hby at_140 rfl (str11 _ (oiadd Xr11 hx hby at_145 (oistore Xr11 hx hby at_146 (lc14 i0 i1 i2 i3 z1 z2 z3 0 0 1 u1 u2 u3 br4 1) rfl (oiload Xr11 hx hby at_148 rfl (oiload Xr11 hx hby at_150 rfl k)))))))))))) ?_
          by_cases hk9 : (i1 &&& (7 : Int32)) = (i2 &&& (7 : Int32))
          · have hc19 : (i1 &&& (7 : Int32)) = (i2 &&& (7 : Int32)) := hk9
            have hs20 : z2 = z3 := by rw [hz3, hz2]; exact hc19
            refine own_go (U' := Tr11.setTop (mkF m 157 (lc14 i0 i1 i2 i3 z1 z2 z3 0 0 1 u1 u2 u3 br4 1) [(.int 0)])) (fun t k => oicN Xr11 hx hby at_152 (teq hs20).2 (oiload Xr11 hx hby at_155 rfl k)) ?_
            obtain ⟨_, Tr12, Lr12, Xr12, hQr12, str12⟩ := ocallS Xr11 hx hZ zm9 hown (ww hw 83 rfl) (ww hw 84 rfl) (by decide) (ww hw 85 rfl) (ww hw 2 rfl) er11 (rm10_18 l Z a0 hw []  Tr8.heap n0 Z_5 ) (st := [(.int 0)]) rfl 0 rfl (by decide) (pc := 165) (Ls := (lc14 i0 i1 i2 i3 z1 z2 z3 0 0 1 u1 u2 u3 br4 1)) hml rfl (lenOf pd_5 rfl) at_165 hby
            obtain ⟨rfl, Nr12q, er12⟩ := hQr12
            have N11 := Fr.app N10 Nr12q
            refine own_go (U' := Tr12.setTop (mkF m 172 (lc14 i0 i1 i2 i3 z1 z2 z3 0 0 1 u1 u2 u3 br4 1) [(.int z3), (.int z1), (.int 0)])) (fun t k => oifY (pc := 157) Xr11 hx hby at_157 164 (by decide) (by decide) (oiconst Xr11 hx hby at_164 (str12 _ (oiload Xr12 hx hby at_168 rfl (oiload Xr12 hx hby at_170 rfl k))))) ?_
            have hc21 : (i0 &&& (7 : Int32)) = (i2 &&& (7 : Int32)) := (Int32.toInt_inj.mp (by have := congrArg Int32.toInt hk8; have := congrArg Int32.toInt hk9; have := c_and i0 (7 : Int32) (by decide); have := (by decide : ((7 : Int32)).toInt = 7); have := c_and i2 (7 : Int32) (by decide); have := c_and i1 (7 : Int32) (by decide); omega))
            have hs22 : z1 = z3 := by rw [hz3, hz1]; exact hc21
            refine own_go (U' := Tr12.setTop (mkF m 177 (lc14 i0 i1 i2 i3 z1 z2 z3 0 0 1 u1 u2 u3 br4 1) [(.int 0), (.int 0)])) (fun t k => oicN Xr12 hx hby at_172 (teq hs22).2 (oiload Xr12 hx hby at_175 rfl k)) ?_
            obtain ⟨_, Tr13, Lr13, Xr13, hQr13, str13⟩ := ocallS Xr12 hx hZ zm9 hown (ww hw 83 rfl) (ww hw 84 rfl) (by decide) (ww hw 85 rfl) (ww hw 2 rfl) er12 (rm10_18 l Z a0 hw []  Tr8.heap n0 Z_5 ) (st := [(.int 0), (.int 0)]) rfl 1 rfl (by decide) (pc := 185) (Ls := (lc14 i0 i1 i2 i3 z1 z2 z3 0 0 1 u1 u2 u3 br4 1)) hml rfl (lenOf pd_5 rfl) at_185 hby
            obtain ⟨rfl, Nr13q, er13⟩ := hQr13
            have N12 := Fr.app N11 Nr13q
            refine own_go (U' := Tr13.setTop (mkF m 193 (lc14 i0 i1 i2 i3 z1 z2 z3 0 0 1 u1 u2 u3 br4 1) [(.int z3), (.int z1), (.int 0)])) (fun t k => oifY (pc := 177) Xr12 hx hby at_177 184 (by decide) (by decide) (oiconst Xr12 hx hby at_184 (str13 _ (oiadd Xr13 hx hby at_188 (oiload Xr13 hx hby at_189 rfl (oiload Xr13 hx hby at_191 rfl k)))))) ?_
            refine own_go (U' := Tr13.setTop (mkF m 198 (lc14 i0 i1 i2 i3 z1 z2 z3 0 0 1 u1 u2 u3 br4 1) [(.int 1), (.int 0)])) (fun t k => oicN Xr13 hx hby at_193 (teq hs22).2 (oiload Xr13 hx hby at_196 rfl k)) ?_
            obtain ⟨_, Tr14, Lr14, Xr14, hQr14, str14⟩ := ocallS Xr13 hx hZ zm9 hown (ww hw 83 rfl) (ww hw 84 rfl) (by decide) (ww hw 85 rfl) (ww hw 2 rfl) er13 (rm10_25 l Z a0 hw []  Tr8.heap n0 Z_5 ) (st := [(.int 1), (.int 0)]) rfl 1 rfl (by decide) (pc := 206) (Ls := (lc14 i0 i1 i2 i3 z1 z2 z3 0 0 1 u1 u2 u3 br4 1)) hml rfl (lenOf pd_5 rfl) at_206 hby
            obtain ⟨rfl, Nr14q, er14⟩ := hQr14
            have N13 := Fr.app N12 Nr14q
            have f34 : Exa Z Tr8.heap br4 zs22 := (f29.keep Kr8)
            have f35 : Fld Z Tr8.heap br4 zs22 "counts" "[I" (.ref b1) := (f30.keep Kr8 (ninS ne3 nin0))
            have f36 : Exa Z Tr8.heap u1 zs0 := (f31.keep Kr8)
            have f37 : Fld Z Tr8.heap u1 zs26 "ordinal" "I" (.int z1) := (f32.keep Kr8 (ninS ne5 nin0))
            obtain ⟨_, Tr15, Lr15, Xr15, hQr15, str15⟩ := ocallV Xr14 hx hZ zm10 zm10 hown (ww hw 86 rfl) (ww hw 87 rfl) (notFace_of_selects (args := #[]) (mvT hZ (ww hw 89 rfl))) (ww hw 89 rfl) (ww hw 88 rfl) (by decide) (ww hw 90 rfl) (ww hw 13 rfl) er14 f34 (rm11_26 l Z a0 hw [] br4 u1 b1 z1 k1 z2 Tr8.heap n0 Z_5 f35 f36 f37 f33 hs4 hs6) (st := [(.ref u1), (.ref br4)]) rfl 0 rfl (by decide) (pc := 216) (Ls := (lc15 i0 i1 i2 i3 z1 z2 z3 0 0 1 u1 u2 u3 br4 1 1)) hml rfl (lenOf pd_6 rfl) at_216 hby
            obtain ⟨rfl, Nr15q, er15⟩ := hQr15
            have N14 := Fr.app N13 Nr15q
            refine own_go (U' := Tr15.setTop (mkF m 221 (lc15 i0 i1 i2 i3 z1 z2 z3 0 0 1 u1 u2 u3 br4 1 1) [(.int 1), (.int 1)])) (fun t k => oifN Xr13 hx hby at_198 (by decide) (oiconst Xr13 hx hby at_201 (ogoto (pc := 202) Xr13 hx hby at_202 206 (by decide) (str14 _ (oiadd Xr14 hx hby at_209 (oistore Xr14 hx hby at_210 (lc15 i0 i1 i2 i3 z1 z2 z3 0 0 1 u1 u2 u3 br4 1 1) rfl (oaload Xr14 hx hby at_212 rfl rfl (oaload Xr14 hx hby at_214 rfl rfl (str15 _ (oiload Xr15 hx hby at_219 rfl k)))))))))) ?_
            have f38 : Exa Z Tr8.heap u3 zs0 := (((((Exa.ext Er4 f5).keep Kr5).keep Kr6).keep Kr7).keep Kr8)
            have ne6 : u3 ≠ br4 := Nat.ne_of_lt (Nat.lt_of_lt_of_le (f6.lt) (Nat.le_of_eq gr4.symm))
            have ne7 : u3 ≠ b1 := Nat.ne_of_lt (Nat.lt_of_lt_of_le (Nat.lt_of_lt_of_le (f6.lt) Er4.1) sz1)
            have f39 : Fld Z Tr8.heap u3 zs26 "ordinal" "I" (.int z3) := (((((Fld.ext Er4 f6).keep Kr5 (ninS ne6 nin0)).keep Kr6 (ninS ne7 nin0)).keep Kr7 (ninS ne7 nin0)).keep Kr8 (ninS ne7 nin0))
            have hc23 : (i2 &&& (7 : Int32)) = (i0 &&& (7 : Int32)) := (Int32.toInt_inj.mp (by have := congrArg Int32.toInt hk8; have := congrArg Int32.toInt hk9; have := c_and i2 (7 : Int32) (by decide); have := (by decide : ((7 : Int32)).toInt = 7); have := c_and i0 (7 : Int32) (by decide); have := c_and i1 (7 : Int32) (by decide); omega))
            have hs24 : z3 = z1 := by rw [hz3, hz1]; exact hc23
            obtain ⟨_, Tr16, Lr16, Xr16, hQr16, str16⟩ := ocallV Xr15 hx hZ zm10 zm10 hown (ww hw 86 rfl) (ww hw 87 rfl) (notFace_of_selects (args := #[]) (mvT hZ (ww hw 89 rfl))) (ww hw 89 rfl) (ww hw 88 rfl) (by decide) (ww hw 90 rfl) (ww hw 13 rfl) er15 f34 (rm11_27 l Z a0 hw [] br4 u3 b1 z3 k1 z1 z2 Tr8.heap n0 Z_5 f35 f38 f39 f33 hs12 hs14 hs24) (st := [(.ref u3), (.ref br4)]) rfl 0 rfl (by decide) (pc := 228) (Ls := (lc15 i0 i1 i2 i3 z1 z2 z3 0 0 1 u1 u2 u3 br4 1 1)) hml rfl (lenOf pd_6 rfl) at_228 hby
            obtain ⟨rfl, Nr16q, er16⟩ := hQr16
            have N15 := Fr.app N14 Nr16q
            refine own_go (U' := Tr16.setTop (mkF m 233 (lc15 i0 i1 i2 i3 z1 z2 z3 0 0 1 u1 u2 u3 br4 1 1) [(.int 1), (.int 1)])) (fun t k => oicN Xr15 hx hby at_221 (by decide) (oaload Xr15 hx hby at_224 rfl rfl (oaload Xr15 hx hby at_226 rfl rfl (str16 _ (oiload Xr16 hx hby at_231 rfl k))))) ?_
            refine own_go (U' := Tr16.setTop (mkF m 241 (lc15 i0 i1 i2 i3 z1 z2 z3 0 0 1 u1 u2 u3 br4 1 1) [(.int 1)])) (fun t k => oicN Xr16 hx hby at_233 (by decide) (oiconst Xr16 hx hby at_236 (ogoto (pc := 237) Xr16 hx hby at_237 241 (by decide) k))) ?_
            obtain ⟨fs, hr, hrun, hended, hW, hsame⟩ := Xr16.leave (v := some (.int 1)) (fun h => by rw [Bd.returns] at h; cases h)
            refine own_out ⟨_, _, ?_, hrun, hended, _, _, rfl, ?_, ⟨_, rfl⟩, hW, hsame.mono (by decide) (by decide)⟩
            · exact retN Xr16 hx (t := .boolean) Bd.returns (by simp) (hb hby at_241) hr
            · exact ⟨rfl, N15⟩
          · obtain ⟨_, Tr12, Lr12, Xr12, hQr12, str12⟩ := ocallS Xr11 hx hZ zm9 hown (ww hw 83 rfl) (ww hw 84 rfl) (by decide) (ww hw 85 rfl) (ww hw 2 rfl) er11 (rm10_18 l Z a0 hw []  Tr8.heap n0 Z_5 ) (st := [(.int 0)]) rfl 0 rfl (by decide) (pc := 165) (Ls := (lc14 i0 i1 i2 i3 z1 z2 z3 0 0 1 u1 u2 u3 br4 1)) hml rfl (lenOf pd_5 rfl) at_165 hby
            obtain ⟨rfl, Nr12q, er12⟩ := hQr12
            have N11 := Fr.app N10 Nr12q
            have hc25 : ¬ ((i1 &&& (7 : Int32)) = (i2 &&& (7 : Int32))) := hk9
            have hs26 : ¬ (z2 = z3) := by rw [hz3, hz2]; exact hc25
            refine own_go (U' := Tr12.setTop (mkF m 172 (lc14 i0 i1 i2 i3 z1 z2 z3 0 0 1 u1 u2 u3 br4 1) [(.int z3), (.int z1), (.int 0)])) (fun t k => oicY (pc := 152) Xr11 hx hby at_152 164 (feq hs26).2 (by decide) (oiconst Xr11 hx hby at_164 (str12 _ (oiload Xr12 hx hby at_168 rfl (oiload Xr12 hx hby at_170 rfl k))))) ?_
            obtain ⟨_, Tr13, Lr13, Xr13, hQr13, str13⟩ := ocallS Xr12 hx hZ zm9 hown (ww hw 83 rfl) (ww hw 84 rfl) (by decide) (ww hw 85 rfl) (ww hw 2 rfl) er12 (rm10_18 l Z a0 hw []  Tr8.heap n0 Z_5 ) (st := [(.int 0), (.int 0)]) rfl 1 rfl (by decide) (pc := 185) (Ls := (lc14 i0 i1 i2 i3 z1 z2 z3 0 0 1 u1 u2 u3 br4 1)) hml rfl (lenOf pd_5 rfl) at_185 hby
            obtain ⟨rfl, Nr13q, er13⟩ := hQr13
            have N12 := Fr.app N11 Nr13q
            have hc27 : ¬ ((i0 &&& (7 : Int32)) = (i2 &&& (7 : Int32))) := (fun e => by have := congrArg Int32.toInt e; have := congrArg Int32.toInt hk8; have : ¬ ((i1 &&& (7 : Int32))).toInt = ((i2 &&& (7 : Int32))).toInt := fun e => hk9 (Int32.toInt_inj.mp e); have := c_and i0 (7 : Int32) (by decide); have := (by decide : ((7 : Int32)).toInt = 7); have := c_and i2 (7 : Int32) (by decide); have := c_and i1 (7 : Int32) (by decide); omega)
            have hs28 : ¬ (z1 = z3) := by rw [hz3, hz1]; exact hc27
            refine own_go (U' := Tr13.setTop (mkF m 193 (lc14 i0 i1 i2 i3 z1 z2 z3 0 0 1 u1 u2 u3 br4 1) [(.int z3), (.int z1), (.int 0)])) (fun t k => oicY (pc := 172) Xr12 hx hby at_172 184 (feq hs28).2 (by decide) (oiconst Xr12 hx hby at_184 (str13 _ (oiadd Xr13 hx hby at_188 (oiload Xr13 hx hby at_189 rfl (oiload Xr13 hx hby at_191 rfl k)))))) ?_
            obtain ⟨_, Tr14, Lr14, Xr14, hQr14, str14⟩ := ocallS Xr13 hx hZ zm9 hown (ww hw 83 rfl) (ww hw 84 rfl) (by decide) (ww hw 85 rfl) (ww hw 2 rfl) er13 (rm10_18 l Z a0 hw []  Tr8.heap n0 Z_5 ) (st := [(.int 0), (.int 0)]) rfl 1 rfl (by decide) (pc := 206) (Ls := (lc14 i0 i1 i2 i3 z1 z2 z3 0 0 1 u1 u2 u3 br4 1)) hml rfl (lenOf pd_5 rfl) at_206 hby
            obtain ⟨rfl, Nr14q, er14⟩ := hQr14
            have N13 := Fr.app N12 Nr14q
            have f34 : Exa Z Tr8.heap br4 zs22 := (f29.keep Kr8)
            have f35 : Fld Z Tr8.heap br4 zs22 "counts" "[I" (.ref b1) := (f30.keep Kr8 (ninS ne3 nin0))
            have f36 : Exa Z Tr8.heap u1 zs0 := (f31.keep Kr8)
            have f37 : Fld Z Tr8.heap u1 zs26 "ordinal" "I" (.int z1) := (f32.keep Kr8 (ninS ne5 nin0))
            obtain ⟨_, Tr15, Lr15, Xr15, hQr15, str15⟩ := ocallV Xr14 hx hZ zm10 zm10 hown (ww hw 86 rfl) (ww hw 87 rfl) (notFace_of_selects (args := #[]) (mvT hZ (ww hw 89 rfl))) (ww hw 89 rfl) (ww hw 88 rfl) (by decide) (ww hw 90 rfl) (ww hw 13 rfl) er14 f34 (rm11_26 l Z a0 hw [] br4 u1 b1 z1 k1 z2 Tr8.heap n0 Z_5 f35 f36 f37 f33 hs4 hs6) (st := [(.ref u1), (.ref br4)]) rfl 0 rfl (by decide) (pc := 216) (Ls := (lc15 i0 i1 i2 i3 z1 z2 z3 0 0 1 u1 u2 u3 br4 1 0)) hml rfl (lenOf pd_6 rfl) at_216 hby
            obtain ⟨rfl, Nr15q, er15⟩ := hQr15
            have N14 := Fr.app N13 Nr15q
            refine own_go (U' := Tr15.setTop (mkF m 221 (lc15 i0 i1 i2 i3 z1 z2 z3 0 0 1 u1 u2 u3 br4 1 0) [(.int 1), (.int 1)])) (fun t k => oicY (pc := 193) Xr13 hx hby at_193 205 (feq hs28).2 (by decide) (oiconst Xr13 hx hby at_205 (str14 _ (oiadd Xr14 hx hby at_209 (oistore Xr14 hx hby at_210 (lc15 i0 i1 i2 i3 z1 z2 z3 0 0 1 u1 u2 u3 br4 1 0) rfl (oaload Xr14 hx hby at_212 rfl rfl (oaload Xr14 hx hby at_214 rfl rfl (str15 _ (oiload Xr15 hx hby at_219 rfl k))))))))) ?_
            have f38 : Exa Z Tr8.heap u3 zs0 := (((((Exa.ext Er4 f5).keep Kr5).keep Kr6).keep Kr7).keep Kr8)
            have ne6 : u3 ≠ br4 := Nat.ne_of_lt (Nat.lt_of_lt_of_le (f6.lt) (Nat.le_of_eq gr4.symm))
            have ne7 : u3 ≠ b1 := Nat.ne_of_lt (Nat.lt_of_lt_of_le (Nat.lt_of_lt_of_le (f6.lt) Er4.1) sz1)
            have f39 : Fld Z Tr8.heap u3 zs26 "ordinal" "I" (.int z3) := (((((Fld.ext Er4 f6).keep Kr5 (ninS ne6 nin0)).keep Kr6 (ninS ne7 nin0)).keep Kr7 (ninS ne7 nin0)).keep Kr8 (ninS ne7 nin0))
            have hc29 : ¬ ((i2 &&& (7 : Int32)) = (i0 &&& (7 : Int32))) := (fun e => by have := congrArg Int32.toInt e; have := congrArg Int32.toInt hk8; have : ¬ ((i1 &&& (7 : Int32))).toInt = ((i2 &&& (7 : Int32))).toInt := fun e => hk9 (Int32.toInt_inj.mp e); have := c_and i2 (7 : Int32) (by decide); have := (by decide : ((7 : Int32)).toInt = 7); have := c_and i0 (7 : Int32) (by decide); have := c_and i1 (7 : Int32) (by decide); omega)
            have hs30 : ¬ (z3 = z1) := by rw [hz3, hz1]; exact hc29
            have hc31 : ¬ ((i2 &&& (7 : Int32)) = (i1 &&& (7 : Int32))) := (fun e => by have := congrArg Int32.toInt e; have : ¬ ((i1 &&& (7 : Int32))).toInt = ((i2 &&& (7 : Int32))).toInt := fun e => hk9 (Int32.toInt_inj.mp e); have := c_and i2 (7 : Int32) (by decide); have := (by decide : ((7 : Int32)).toInt = 7); have := c_and i1 (7 : Int32) (by decide); omega)
            have hs32 : ¬ (z3 = z2) := by rw [hz3, hz2]; exact hc31
            obtain ⟨_, Tr16, Lr16, Xr16, hQr16, str16⟩ := ocallV Xr15 hx hZ zm10 zm10 hown (ww hw 86 rfl) (ww hw 87 rfl) (notFace_of_selects (args := #[]) (mvT hZ (ww hw 89 rfl))) (ww hw 89 rfl) (ww hw 88 rfl) (by decide) (ww hw 90 rfl) (ww hw 13 rfl) er15 f34 (rm11_28 l Z a0 hw [] br4 u3 b1 z3 k1 z1 z2 Tr8.heap n0 Z_5 f35 f38 f39 f33 hs12 hs14 hs30 hs32) (st := [(.ref u3), (.ref br4)]) rfl 0 rfl (by decide) (pc := 228) (Ls := (lc15 i0 i1 i2 i3 z1 z2 z3 0 0 1 u1 u2 u3 br4 1 0)) hml rfl (lenOf pd_6 rfl) at_228 hby
            obtain ⟨rfl, Nr16q, er16⟩ := hQr16
            have N15 := Fr.app N14 Nr16q
            refine own_go (U' := Tr16.setTop (mkF m 233 (lc15 i0 i1 i2 i3 z1 z2 z3 0 0 1 u1 u2 u3 br4 1 0) [(.int 0), (.int 0)])) (fun t k => oicN Xr15 hx hby at_221 (by decide) (oaload Xr15 hx hby at_224 rfl rfl (oaload Xr15 hx hby at_226 rfl rfl (str16 _ (oiload Xr16 hx hby at_231 rfl k))))) ?_
            refine own_go (U' := Tr16.setTop (mkF m 241 (lc15 i0 i1 i2 i3 z1 z2 z3 0 0 1 u1 u2 u3 br4 1 0) [(.int 1)])) (fun t k => oicN Xr16 hx hby at_233 (by decide) (oiconst Xr16 hx hby at_236 (ogoto (pc := 237) Xr16 hx hby at_237 241 (by decide) k))) ?_
            obtain ⟨fs, hr, hrun, hended, hW, hsame⟩ := Xr16.leave (v := some (.int 1)) (fun h => by rw [Bd.returns] at h; cases h)
            refine own_out ⟨_, _, ?_, hrun, hended, _, _, rfl, ?_, ⟨_, rfl⟩, hW, hsame.mono (by decide) (by decide)⟩
            · exact retN Xr16 hx (t := .boolean) Bd.returns (by simp) (hb hby at_241) hr
            · exact ⟨rfl, N15⟩
        · have hc33 : ¬ ((i0 &&& (7 : Int32)) = (i1 &&& (7 : Int32))) := hk8
          have hs34 : ¬ (z1 = z2) := by rw [hz2, hz1]; exact hc33
          obtain ⟨_, Tr7, Lr7, Xr7, hQr7, str7⟩ := ocallV Xr6 hx hZ zm7 zm7 hown (ww hw 69 rfl) (ww hw 70 rfl) (notFace_of_selects (args := #[]) (mvT hZ (ww hw 72 rfl))) (ww hw 72 rfl) (ww hw 71 rfl) (by decide) (ww hw 73 rfl) (ww hw 13 rfl) rfl f24 (rm8_22 l Z a0 hw [] br4 u1 b1 z1 k1 z2 Tr6.heap n0 Z_3 f25 f26 f27 f23 hs4 hs6 hs34 g2) (st := [(.int 0), (.ref u1), (.ref br4)]) rfl 0 rfl (by decide) (pc := 102) (Ls := (lc12 i0 i1 i2 i3 z1 z2 z3 0 0 1 u1 u2 u3 br4)) hml rfl (lenOf pd_4 rfl) at_102 hby
          obtain ⟨rfl, Nr7q, Kr7, f28⟩ := hQr7
          have N6 := Fr.app N5 Nr7q
          have f29 : Exa Z Tr7.heap br4 zs22 := (f24.keep Kr7)
          have f30 : Fld Z Tr7.heap br4 zs22 "counts" "[I" (.ref b1) := (f25.keep Kr7 (ninS ne3 nin0))
          have f31 : Exa Z Tr7.heap u1 zs0 := (f26.keep Kr7)
          have f32 : Fld Z Tr7.heap u1 zs26 "ordinal" "I" (.int z1) := (f27.keep Kr7 (ninS ne5 nin0))
          have Z_4 : n0 ≤ Tr7.heap.size := Nat.le_trans Z_3 Kr7.1
          obtain ⟨_, Tr8, Lr8, Xr8, hQr8, str8⟩ := ocallV Xr7 hx hZ zm7 zm7 hown (ww hw 69 rfl) (ww hw 70 rfl) (notFace_of_selects (args := #[]) (mvT hZ (ww hw 72 rfl))) (ww hw 72 rfl) (ww hw 71 rfl) (by decide) (ww hw 73 rfl) (ww hw 13 rfl) rfl f29 (rm8_24 l Z a0 hw [] br4 u1 b1 z1 k1 z2 Tr7.heap n0 Z_4 f30 f31 f32 f28 hs4 hs6 g2) (st := [(.int 1), (.ref u1), (.ref br4)]) rfl 0 rfl (by decide) (pc := 111) (Ls := (lc12 i0 i1 i2 i3 z1 z2 z3 0 0 1 u1 u2 u3 br4)) hml rfl (lenOf pd_4 rfl) at_111 hby
          obtain ⟨rfl, Nr8q, Kr8, f33⟩ := hQr8
          have N7 := Fr.app N6 Nr8q
          refine own_go (U' := Tr8.setTop (mkF m 118 (lc12 i0 i1 i2 i3 z1 z2 z3 0 0 1 u1 u2 u3 br4) [(.int z1), (.int z2)])) (fun t k => oastore Xr3 hx hby at_76 (lc9 i0 i1 i2 i3 z1 z2 z3 0 0 1 u1 u2 u3) rfl rfl (str4 _ (odup Xr4 hx hby at_81 rfl (str5 _ (oastore Xr5 hx hby at_85 (lc12 i0 i1 i2 i3 z1 z2 z3 0 0 1 u1 u2 u3 br4) rfl rfl (oaload Xr5 hx hby at_87 rfl rfl (oaload Xr5 hx hby at_89 rfl rfl (oiload Xr5 hx hby at_91 rfl (str6 _ (oaload Xr6 hx hby at_96 rfl rfl (oaload Xr6 hx hby at_98 rfl rfl (oiload Xr6 hx hby at_100 rfl (str7 _ (oaload Xr7 hx hby at_105 rfl rfl (oaload Xr7 hx hby at_107 rfl rfl (oiload Xr7 hx hby at_109 rfl (str8 _ (oiload Xr8 hx hby at_114 rfl (oiload Xr8 hx hby at_116 rfl k))))))))))))))))))) ?_
          have Z_5 : n0 ≤ Tr8.heap.size := Nat.le_trans Z_4 Kr8.1
          obtain ⟨_, Tr9, Lr9, Xr9, hQr9, str9⟩ := ocallS Xr8 hx hZ zm9 hown (ww hw 83 rfl) (ww hw 84 rfl) (by decide) (ww hw 85 rfl) (ww hw 2 rfl) rfl (rm10_18 l Z a0 hw []  Tr8.heap n0 Z_5 ) (st := [(.int 0)]) rfl 0 rfl (by decide) (pc := 131) (Ls := (lc12 i0 i1 i2 i3 z1 z2 z3 0 0 1 u1 u2 u3 br4)) hml rfl (lenOf pd_5 rfl) at_131 hby
          obtain ⟨rfl, Nr9q, er9⟩ := hQr9
          have N8 := Fr.app N7 Nr9q
          obtain ⟨_, Tr10, Lr10, Xr10, hQr10, str10⟩ := ocallS Xr9 hx hZ zm9 hown (ww hw 83 rfl) (ww hw 84 rfl) (by decide) (ww hw 85 rfl) (ww hw 2 rfl) er9 (rm10_18 l Z a0 hw []  Tr8.heap n0 Z_5 ) (st := [(.int 0), (.int 0)]) rfl 1 rfl (by decide) (pc := 136) (Ls := (lc12 i0 i1 i2 i3 z1 z2 z3 0 0 1 u1 u2 u3 br4)) hml rfl (lenOf pd_5 rfl) at_136 hby
          obtain ⟨rfl, Nr10q, er10⟩ := hQr10
          have N9 := Fr.app N8 Nr10q
          obtain ⟨_, Tr11, Lr11, Xr11, hQr11, str11⟩ := ocallS Xr10 hx hZ zm9 hown (ww hw 83 rfl) (ww hw 84 rfl) (by decide) (ww hw 85 rfl) (ww hw 2 rfl) er10 (rm10_25 l Z a0 hw []  Tr8.heap n0 Z_5 ) (st := [(.int 1), (.int 0)]) rfl 1 rfl (by decide) (pc := 142) (Ls := (lc12 i0 i1 i2 i3 z1 z2 z3 0 0 1 u1 u2 u3 br4)) hml rfl (lenOf pd_5 rfl) at_142 hby
          obtain ⟨rfl, Nr11q, er11⟩ := hQr11
          have N10 := Fr.app N9 Nr11q
          have hc35 : ¬ ((i1 &&& (7 : Int32)) = (i0 &&& (7 : Int32))) := (fun e => by have := congrArg Int32.toInt e; have : ¬ ((i0 &&& (7 : Int32))).toInt = ((i1 &&& (7 : Int32))).toInt := fun e => hk8 (Int32.toInt_inj.mp e); have := c_and i1 (7 : Int32) (by decide); have := (by decide : ((7 : Int32)).toInt = 7); have := c_and i0 (7 : Int32) (by decide); omega)
          have hs36 : ¬ (z2 = z1) := by rw [hz2, hz1]; exact hc35
          refine own_go (U' := Tr11.setTop (mkF m 152 (lc14 i0 i1 i2 i3 z1 z2 z3 0 0 1 u1 u2 u3 br4 1) [(.int z3), (.int z2)])) (fun t k => oicY (pc := 118) Xr8 hx hby at_118 130 (feq hs36).2 (by decide) (oiconst Xr8 hx hby at_130 (str9 _ (oiload Xr9 hx hby at_134 rfl (str10 _ (oiadd Xr10 hx hby at_139 (oiload Xr10 hx hby at_140 rfl (str11 _ (oiadd Xr11 hx hby at_145 (oistore Xr11 hx hby at_146 (lc14 i0 i1 i2 i3 z1 z2 z3 0 0 1 u1 u2 u3 br4 1) rfl (oiload Xr11 hx hby at_148 rfl (oiload Xr11 hx hby at_150 rfl k)))))))))))) ?_
          by_cases hk10 : (i1 &&& (7 : Int32)) = (i2 &&& (7 : Int32))
          · have hc19 : (i1 &&& (7 : Int32)) = (i2 &&& (7 : Int32)) := hk10
            have hs20 : z2 = z3 := by rw [hz3, hz2]; exact hc19
            refine own_go (U' := Tr11.setTop (mkF m 157 (lc14 i0 i1 i2 i3 z1 z2 z3 0 0 1 u1 u2 u3 br4 1) [(.int 0)])) (fun t k => oicN Xr11 hx hby at_152 (teq hs20).2 (oiload Xr11 hx hby at_155 rfl k)) ?_
            obtain ⟨_, Tr12, Lr12, Xr12, hQr12, str12⟩ := ocallS Xr11 hx hZ zm9 hown (ww hw 83 rfl) (ww hw 84 rfl) (by decide) (ww hw 85 rfl) (ww hw 2 rfl) er11 (rm10_18 l Z a0 hw []  Tr8.heap n0 Z_5 ) (st := [(.int 0)]) rfl 0 rfl (by decide) (pc := 165) (Ls := (lc14 i0 i1 i2 i3 z1 z2 z3 0 0 1 u1 u2 u3 br4 1)) hml rfl (lenOf pd_5 rfl) at_165 hby
            obtain ⟨rfl, Nr12q, er12⟩ := hQr12
            have N11 := Fr.app N10 Nr12q
            refine own_go (U' := Tr12.setTop (mkF m 172 (lc14 i0 i1 i2 i3 z1 z2 z3 0 0 1 u1 u2 u3 br4 1) [(.int z3), (.int z1), (.int 0)])) (fun t k => oifY (pc := 157) Xr11 hx hby at_157 164 (by decide) (by decide) (oiconst Xr11 hx hby at_164 (str12 _ (oiload Xr12 hx hby at_168 rfl (oiload Xr12 hx hby at_170 rfl k))))) ?_
            obtain ⟨_, Tr13, Lr13, Xr13, hQr13, str13⟩ := ocallS Xr12 hx hZ zm9 hown (ww hw 83 rfl) (ww hw 84 rfl) (by decide) (ww hw 85 rfl) (ww hw 2 rfl) er12 (rm10_18 l Z a0 hw []  Tr8.heap n0 Z_5 ) (st := [(.int 0), (.int 0)]) rfl 1 rfl (by decide) (pc := 185) (Ls := (lc14 i0 i1 i2 i3 z1 z2 z3 0 0 1 u1 u2 u3 br4 1)) hml rfl (lenOf pd_5 rfl) at_185 hby
            obtain ⟨rfl, Nr13q, er13⟩ := hQr13
            have N12 := Fr.app N11 Nr13q
            have hc27 : ¬ ((i0 &&& (7 : Int32)) = (i2 &&& (7 : Int32))) := (fun e => by have := congrArg Int32.toInt e; have : ¬ ((i0 &&& (7 : Int32))).toInt = ((i1 &&& (7 : Int32))).toInt := fun e => hk8 (Int32.toInt_inj.mp e); have := congrArg Int32.toInt hk10; have := c_and i0 (7 : Int32) (by decide); have := (by decide : ((7 : Int32)).toInt = 7); have := c_and i2 (7 : Int32) (by decide); have := c_and i1 (7 : Int32) (by decide); omega)
            have hs28 : ¬ (z1 = z3) := by rw [hz3, hz1]; exact hc27
            refine own_go (U' := Tr13.setTop (mkF m 193 (lc14 i0 i1 i2 i3 z1 z2 z3 0 0 1 u1 u2 u3 br4 1) [(.int z3), (.int z1), (.int 0)])) (fun t k => oicY (pc := 172) Xr12 hx hby at_172 184 (feq hs28).2 (by decide) (oiconst Xr12 hx hby at_184 (str13 _ (oiadd Xr13 hx hby at_188 (oiload Xr13 hx hby at_189 rfl (oiload Xr13 hx hby at_191 rfl k)))))) ?_
            obtain ⟨_, Tr14, Lr14, Xr14, hQr14, str14⟩ := ocallS Xr13 hx hZ zm9 hown (ww hw 83 rfl) (ww hw 84 rfl) (by decide) (ww hw 85 rfl) (ww hw 2 rfl) er13 (rm10_18 l Z a0 hw []  Tr8.heap n0 Z_5 ) (st := [(.int 0), (.int 0)]) rfl 1 rfl (by decide) (pc := 206) (Ls := (lc14 i0 i1 i2 i3 z1 z2 z3 0 0 1 u1 u2 u3 br4 1)) hml rfl (lenOf pd_5 rfl) at_206 hby
            obtain ⟨rfl, Nr14q, er14⟩ := hQr14
            have N13 := Fr.app N12 Nr14q
            have f34 : Exa Z Tr8.heap br4 zs22 := (f29.keep Kr8)
            have f35 : Fld Z Tr8.heap br4 zs22 "counts" "[I" (.ref b1) := (f30.keep Kr8 (ninS ne3 nin0))
            have f36 : Exa Z Tr8.heap u1 zs0 := (f31.keep Kr8)
            have f37 : Fld Z Tr8.heap u1 zs26 "ordinal" "I" (.int z1) := (f32.keep Kr8 (ninS ne5 nin0))
            obtain ⟨_, Tr15, Lr15, Xr15, hQr15, str15⟩ := ocallV Xr14 hx hZ zm10 zm10 hown (ww hw 86 rfl) (ww hw 87 rfl) (notFace_of_selects (args := #[]) (mvT hZ (ww hw 89 rfl))) (ww hw 89 rfl) (ww hw 88 rfl) (by decide) (ww hw 90 rfl) (ww hw 13 rfl) er14 f34 (rm11_26 l Z a0 hw [] br4 u1 b1 z1 k1 z2 Tr8.heap n0 Z_5 f35 f36 f37 f33 hs4 hs6) (st := [(.ref u1), (.ref br4)]) rfl 0 rfl (by decide) (pc := 216) (Ls := (lc15 i0 i1 i2 i3 z1 z2 z3 0 0 1 u1 u2 u3 br4 1 0)) hml rfl (lenOf pd_6 rfl) at_216 hby
            obtain ⟨rfl, Nr15q, er15⟩ := hQr15
            have N14 := Fr.app N13 Nr15q
            refine own_go (U' := Tr15.setTop (mkF m 221 (lc15 i0 i1 i2 i3 z1 z2 z3 0 0 1 u1 u2 u3 br4 1 0) [(.int 1), (.int 1)])) (fun t k => oicY (pc := 193) Xr13 hx hby at_193 205 (feq hs28).2 (by decide) (oiconst Xr13 hx hby at_205 (str14 _ (oiadd Xr14 hx hby at_209 (oistore Xr14 hx hby at_210 (lc15 i0 i1 i2 i3 z1 z2 z3 0 0 1 u1 u2 u3 br4 1 0) rfl (oaload Xr14 hx hby at_212 rfl rfl (oaload Xr14 hx hby at_214 rfl rfl (str15 _ (oiload Xr15 hx hby at_219 rfl k))))))))) ?_
            have f38 : Exa Z Tr8.heap u3 zs0 := (((((Exa.ext Er4 f5).keep Kr5).keep Kr6).keep Kr7).keep Kr8)
            have ne6 : u3 ≠ br4 := Nat.ne_of_lt (Nat.lt_of_lt_of_le (f6.lt) (Nat.le_of_eq gr4.symm))
            have ne7 : u3 ≠ b1 := Nat.ne_of_lt (Nat.lt_of_lt_of_le (Nat.lt_of_lt_of_le (f6.lt) Er4.1) sz1)
            have f39 : Fld Z Tr8.heap u3 zs26 "ordinal" "I" (.int z3) := (((((Fld.ext Er4 f6).keep Kr5 (ninS ne6 nin0)).keep Kr6 (ninS ne7 nin0)).keep Kr7 (ninS ne7 nin0)).keep Kr8 (ninS ne7 nin0))
            have hc29 : ¬ ((i2 &&& (7 : Int32)) = (i0 &&& (7 : Int32))) := (fun e => by have := congrArg Int32.toInt e; have : ¬ ((i0 &&& (7 : Int32))).toInt = ((i1 &&& (7 : Int32))).toInt := fun e => hk8 (Int32.toInt_inj.mp e); have := congrArg Int32.toInt hk10; have := c_and i2 (7 : Int32) (by decide); have := (by decide : ((7 : Int32)).toInt = 7); have := c_and i0 (7 : Int32) (by decide); have := c_and i1 (7 : Int32) (by decide); omega)
            have hs30 : ¬ (z3 = z1) := by rw [hz3, hz1]; exact hc29
            have hc37 : (i2 &&& (7 : Int32)) = (i1 &&& (7 : Int32)) := (Int32.toInt_inj.mp (by have := congrArg Int32.toInt hk10; have := c_and i2 (7 : Int32) (by decide); have := (by decide : ((7 : Int32)).toInt = 7); have := c_and i1 (7 : Int32) (by decide); omega))
            have hs38 : z3 = z2 := by rw [hz3, hz2]; exact hc37
            obtain ⟨_, Tr16, Lr16, Xr16, hQr16, str16⟩ := ocallV Xr15 hx hZ zm10 zm10 hown (ww hw 86 rfl) (ww hw 87 rfl) (notFace_of_selects (args := #[]) (mvT hZ (ww hw 89 rfl))) (ww hw 89 rfl) (ww hw 88 rfl) (by decide) (ww hw 90 rfl) (ww hw 13 rfl) er15 f34 (rm11_29 l Z a0 hw [] br4 u3 b1 z3 k1 z1 z2 Tr8.heap n0 Z_5 f35 f38 f39 f33 hs12 hs14 hs30 hs38) (st := [(.ref u3), (.ref br4)]) rfl 0 rfl (by decide) (pc := 228) (Ls := (lc15 i0 i1 i2 i3 z1 z2 z3 0 0 1 u1 u2 u3 br4 1 0)) hml rfl (lenOf pd_6 rfl) at_228 hby
            obtain ⟨rfl, Nr16q, er16⟩ := hQr16
            have N15 := Fr.app N14 Nr16q
            refine own_go (U' := Tr16.setTop (mkF m 233 (lc15 i0 i1 i2 i3 z1 z2 z3 0 0 1 u1 u2 u3 br4 1 0) [(.int 0), (.int 0)])) (fun t k => oicN Xr15 hx hby at_221 (by decide) (oaload Xr15 hx hby at_224 rfl rfl (oaload Xr15 hx hby at_226 rfl rfl (str16 _ (oiload Xr16 hx hby at_231 rfl k))))) ?_
            refine own_go (U' := Tr16.setTop (mkF m 241 (lc15 i0 i1 i2 i3 z1 z2 z3 0 0 1 u1 u2 u3 br4 1 0) [(.int 1)])) (fun t k => oicN Xr16 hx hby at_233 (by decide) (oiconst Xr16 hx hby at_236 (ogoto (pc := 237) Xr16 hx hby at_237 241 (by decide) k))) ?_
            obtain ⟨fs, hr, hrun, hended, hW, hsame⟩ := Xr16.leave (v := some (.int 1)) (fun h => by rw [Bd.returns] at h; cases h)
            refine own_out ⟨_, _, ?_, hrun, hended, _, _, rfl, ?_, ⟨_, rfl⟩, hW, hsame.mono (by decide) (by decide)⟩
            · exact retN Xr16 hx (t := .boolean) Bd.returns (by simp) (hb hby at_241) hr
            · exact ⟨rfl, N15⟩
          · obtain ⟨_, Tr12, Lr12, Xr12, hQr12, str12⟩ := ocallS Xr11 hx hZ zm9 hown (ww hw 83 rfl) (ww hw 84 rfl) (by decide) (ww hw 85 rfl) (ww hw 2 rfl) er11 (rm10_18 l Z a0 hw []  Tr8.heap n0 Z_5 ) (st := [(.int 0)]) rfl 0 rfl (by decide) (pc := 165) (Ls := (lc14 i0 i1 i2 i3 z1 z2 z3 0 0 1 u1 u2 u3 br4 1)) hml rfl (lenOf pd_5 rfl) at_165 hby
            obtain ⟨rfl, Nr12q, er12⟩ := hQr12
            have N11 := Fr.app N10 Nr12q
            have hc25 : ¬ ((i1 &&& (7 : Int32)) = (i2 &&& (7 : Int32))) := hk10
            have hs26 : ¬ (z2 = z3) := by rw [hz3, hz2]; exact hc25
            refine own_go (U' := Tr12.setTop (mkF m 172 (lc14 i0 i1 i2 i3 z1 z2 z3 0 0 1 u1 u2 u3 br4 1) [(.int z3), (.int z1), (.int 0)])) (fun t k => oicY (pc := 152) Xr11 hx hby at_152 164 (feq hs26).2 (by decide) (oiconst Xr11 hx hby at_164 (str12 _ (oiload Xr12 hx hby at_168 rfl (oiload Xr12 hx hby at_170 rfl k))))) ?_
            by_cases hk11 : (i0 &&& (7 : Int32)) = (i2 &&& (7 : Int32))
            · have hc21 : (i0 &&& (7 : Int32)) = (i2 &&& (7 : Int32)) := hk11
              have hs22 : z1 = z3 := by rw [hz3, hz1]; exact hc21
              refine own_go (U' := Tr12.setTop (mkF m 177 (lc14 i0 i1 i2 i3 z1 z2 z3 0 0 1 u1 u2 u3 br4 1) [(.int 0), (.int 0)])) (fun t k => oicN Xr12 hx hby at_172 (teq hs22).2 (oiload Xr12 hx hby at_175 rfl k)) ?_
              obtain ⟨_, Tr13, Lr13, Xr13, hQr13, str13⟩ := ocallS Xr12 hx hZ zm9 hown (ww hw 83 rfl) (ww hw 84 rfl) (by decide) (ww hw 85 rfl) (ww hw 2 rfl) er12 (rm10_18 l Z a0 hw []  Tr8.heap n0 Z_5 ) (st := [(.int 0), (.int 0)]) rfl 1 rfl (by decide) (pc := 185) (Ls := (lc14 i0 i1 i2 i3 z1 z2 z3 0 0 1 u1 u2 u3 br4 1)) hml rfl (lenOf pd_5 rfl) at_185 hby
              obtain ⟨rfl, Nr13q, er13⟩ := hQr13
              have N12 := Fr.app N11 Nr13q
              refine own_go (U' := Tr13.setTop (mkF m 193 (lc14 i0 i1 i2 i3 z1 z2 z3 0 0 1 u1 u2 u3 br4 1) [(.int z3), (.int z1), (.int 0)])) (fun t k => oifY (pc := 177) Xr12 hx hby at_177 184 (by decide) (by decide) (oiconst Xr12 hx hby at_184 (str13 _ (oiadd Xr13 hx hby at_188 (oiload Xr13 hx hby at_189 rfl (oiload Xr13 hx hby at_191 rfl k)))))) ?_
              refine own_go (U' := Tr13.setTop (mkF m 198 (lc14 i0 i1 i2 i3 z1 z2 z3 0 0 1 u1 u2 u3 br4 1) [(.int 1), (.int 0)])) (fun t k => oicN Xr13 hx hby at_193 (teq hs22).2 (oiload Xr13 hx hby at_196 rfl k)) ?_
              obtain ⟨_, Tr14, Lr14, Xr14, hQr14, str14⟩ := ocallS Xr13 hx hZ zm9 hown (ww hw 83 rfl) (ww hw 84 rfl) (by decide) (ww hw 85 rfl) (ww hw 2 rfl) er13 (rm10_25 l Z a0 hw []  Tr8.heap n0 Z_5 ) (st := [(.int 1), (.int 0)]) rfl 1 rfl (by decide) (pc := 206) (Ls := (lc14 i0 i1 i2 i3 z1 z2 z3 0 0 1 u1 u2 u3 br4 1)) hml rfl (lenOf pd_5 rfl) at_206 hby
              obtain ⟨rfl, Nr14q, er14⟩ := hQr14
              have N13 := Fr.app N12 Nr14q
              have f34 : Exa Z Tr8.heap br4 zs22 := (f29.keep Kr8)
              have f35 : Fld Z Tr8.heap br4 zs22 "counts" "[I" (.ref b1) := (f30.keep Kr8 (ninS ne3 nin0))
              have f36 : Exa Z Tr8.heap u1 zs0 := (f31.keep Kr8)
              have f37 : Fld Z Tr8.heap u1 zs26 "ordinal" "I" (.int z1) := (f32.keep Kr8 (ninS ne5 nin0))
              obtain ⟨_, Tr15, Lr15, Xr15, hQr15, str15⟩ := ocallV Xr14 hx hZ zm10 zm10 hown (ww hw 86 rfl) (ww hw 87 rfl) (notFace_of_selects (args := #[]) (mvT hZ (ww hw 89 rfl))) (ww hw 89 rfl) (ww hw 88 rfl) (by decide) (ww hw 90 rfl) (ww hw 13 rfl) er14 f34 (rm11_26 l Z a0 hw [] br4 u1 b1 z1 k1 z2 Tr8.heap n0 Z_5 f35 f36 f37 f33 hs4 hs6) (st := [(.ref u1), (.ref br4)]) rfl 0 rfl (by decide) (pc := 216) (Ls := (lc15 i0 i1 i2 i3 z1 z2 z3 0 0 1 u1 u2 u3 br4 1 1)) hml rfl (lenOf pd_6 rfl) at_216 hby
              obtain ⟨rfl, Nr15q, er15⟩ := hQr15
              have N14 := Fr.app N13 Nr15q
              refine own_go (U' := Tr15.setTop (mkF m 221 (lc15 i0 i1 i2 i3 z1 z2 z3 0 0 1 u1 u2 u3 br4 1 1) [(.int 1), (.int 1)])) (fun t k => oifN Xr13 hx hby at_198 (by decide) (oiconst Xr13 hx hby at_201 (ogoto (pc := 202) Xr13 hx hby at_202 206 (by decide) (str14 _ (oiadd Xr14 hx hby at_209 (oistore Xr14 hx hby at_210 (lc15 i0 i1 i2 i3 z1 z2 z3 0 0 1 u1 u2 u3 br4 1 1) rfl (oaload Xr14 hx hby at_212 rfl rfl (oaload Xr14 hx hby at_214 rfl rfl (str15 _ (oiload Xr15 hx hby at_219 rfl k)))))))))) ?_
              have f38 : Exa Z Tr8.heap u3 zs0 := (((((Exa.ext Er4 f5).keep Kr5).keep Kr6).keep Kr7).keep Kr8)
              have ne6 : u3 ≠ br4 := Nat.ne_of_lt (Nat.lt_of_lt_of_le (f6.lt) (Nat.le_of_eq gr4.symm))
              have ne7 : u3 ≠ b1 := Nat.ne_of_lt (Nat.lt_of_lt_of_le (Nat.lt_of_lt_of_le (f6.lt) Er4.1) sz1)
              have f39 : Fld Z Tr8.heap u3 zs26 "ordinal" "I" (.int z3) := (((((Fld.ext Er4 f6).keep Kr5 (ninS ne6 nin0)).keep Kr6 (ninS ne7 nin0)).keep Kr7 (ninS ne7 nin0)).keep Kr8 (ninS ne7 nin0))
              have hc23 : (i2 &&& (7 : Int32)) = (i0 &&& (7 : Int32)) := (Int32.toInt_inj.mp (by have := congrArg Int32.toInt hk11; have := c_and i2 (7 : Int32) (by decide); have := (by decide : ((7 : Int32)).toInt = 7); have := c_and i0 (7 : Int32) (by decide); omega))
              have hs24 : z3 = z1 := by rw [hz3, hz1]; exact hc23
              obtain ⟨_, Tr16, Lr16, Xr16, hQr16, str16⟩ := ocallV Xr15 hx hZ zm10 zm10 hown (ww hw 86 rfl) (ww hw 87 rfl) (notFace_of_selects (args := #[]) (mvT hZ (ww hw 89 rfl))) (ww hw 89 rfl) (ww hw 88 rfl) (by decide) (ww hw 90 rfl) (ww hw 13 rfl) er15 f34 (rm11_27 l Z a0 hw [] br4 u3 b1 z3 k1 z1 z2 Tr8.heap n0 Z_5 f35 f38 f39 f33 hs12 hs14 hs24) (st := [(.ref u3), (.ref br4)]) rfl 0 rfl (by decide) (pc := 228) (Ls := (lc15 i0 i1 i2 i3 z1 z2 z3 0 0 1 u1 u2 u3 br4 1 1)) hml rfl (lenOf pd_6 rfl) at_228 hby
              obtain ⟨rfl, Nr16q, er16⟩ := hQr16
              have N15 := Fr.app N14 Nr16q
              refine own_go (U' := Tr16.setTop (mkF m 233 (lc15 i0 i1 i2 i3 z1 z2 z3 0 0 1 u1 u2 u3 br4 1 1) [(.int 1), (.int 1)])) (fun t k => oicN Xr15 hx hby at_221 (by decide) (oaload Xr15 hx hby at_224 rfl rfl (oaload Xr15 hx hby at_226 rfl rfl (str16 _ (oiload Xr16 hx hby at_231 rfl k))))) ?_
              refine own_go (U' := Tr16.setTop (mkF m 241 (lc15 i0 i1 i2 i3 z1 z2 z3 0 0 1 u1 u2 u3 br4 1 1) [(.int 1)])) (fun t k => oicN Xr16 hx hby at_233 (by decide) (oiconst Xr16 hx hby at_236 (ogoto (pc := 237) Xr16 hx hby at_237 241 (by decide) k))) ?_
              obtain ⟨fs, hr, hrun, hended, hW, hsame⟩ := Xr16.leave (v := some (.int 1)) (fun h => by rw [Bd.returns] at h; cases h)
              refine own_out ⟨_, _, ?_, hrun, hended, _, _, rfl, ?_, ⟨_, rfl⟩, hW, hsame.mono (by decide) (by decide)⟩
              · exact retN Xr16 hx (t := .boolean) Bd.returns (by simp) (hb hby at_241) hr
              · exact ⟨rfl, N15⟩
            · obtain ⟨_, Tr13, Lr13, Xr13, hQr13, str13⟩ := ocallS Xr12 hx hZ zm9 hown (ww hw 83 rfl) (ww hw 84 rfl) (by decide) (ww hw 85 rfl) (ww hw 2 rfl) er12 (rm10_18 l Z a0 hw []  Tr8.heap n0 Z_5 ) (st := [(.int 0), (.int 0)]) rfl 1 rfl (by decide) (pc := 185) (Ls := (lc14 i0 i1 i2 i3 z1 z2 z3 0 0 1 u1 u2 u3 br4 1)) hml rfl (lenOf pd_5 rfl) at_185 hby
              obtain ⟨rfl, Nr13q, er13⟩ := hQr13
              have N12 := Fr.app N11 Nr13q
              have hc27 : ¬ ((i0 &&& (7 : Int32)) = (i2 &&& (7 : Int32))) := hk11
              have hs28 : ¬ (z1 = z3) := by rw [hz3, hz1]; exact hc27
              refine own_go (U' := Tr13.setTop (mkF m 193 (lc14 i0 i1 i2 i3 z1 z2 z3 0 0 1 u1 u2 u3 br4 1) [(.int z3), (.int z1), (.int 0)])) (fun t k => oicY (pc := 172) Xr12 hx hby at_172 184 (feq hs28).2 (by decide) (oiconst Xr12 hx hby at_184 (str13 _ (oiadd Xr13 hx hby at_188 (oiload Xr13 hx hby at_189 rfl (oiload Xr13 hx hby at_191 rfl k)))))) ?_
              obtain ⟨_, Tr14, Lr14, Xr14, hQr14, str14⟩ := ocallS Xr13 hx hZ zm9 hown (ww hw 83 rfl) (ww hw 84 rfl) (by decide) (ww hw 85 rfl) (ww hw 2 rfl) er13 (rm10_18 l Z a0 hw []  Tr8.heap n0 Z_5 ) (st := [(.int 0), (.int 0)]) rfl 1 rfl (by decide) (pc := 206) (Ls := (lc14 i0 i1 i2 i3 z1 z2 z3 0 0 1 u1 u2 u3 br4 1)) hml rfl (lenOf pd_5 rfl) at_206 hby
              obtain ⟨rfl, Nr14q, er14⟩ := hQr14
              have N13 := Fr.app N12 Nr14q
              have f34 : Exa Z Tr8.heap br4 zs22 := (f29.keep Kr8)
              have f35 : Fld Z Tr8.heap br4 zs22 "counts" "[I" (.ref b1) := (f30.keep Kr8 (ninS ne3 nin0))
              have f36 : Exa Z Tr8.heap u1 zs0 := (f31.keep Kr8)
              have f37 : Fld Z Tr8.heap u1 zs26 "ordinal" "I" (.int z1) := (f32.keep Kr8 (ninS ne5 nin0))
              obtain ⟨_, Tr15, Lr15, Xr15, hQr15, str15⟩ := ocallV Xr14 hx hZ zm10 zm10 hown (ww hw 86 rfl) (ww hw 87 rfl) (notFace_of_selects (args := #[]) (mvT hZ (ww hw 89 rfl))) (ww hw 89 rfl) (ww hw 88 rfl) (by decide) (ww hw 90 rfl) (ww hw 13 rfl) er14 f34 (rm11_26 l Z a0 hw [] br4 u1 b1 z1 k1 z2 Tr8.heap n0 Z_5 f35 f36 f37 f33 hs4 hs6) (st := [(.ref u1), (.ref br4)]) rfl 0 rfl (by decide) (pc := 216) (Ls := (lc15 i0 i1 i2 i3 z1 z2 z3 0 0 1 u1 u2 u3 br4 1 0)) hml rfl (lenOf pd_6 rfl) at_216 hby
              obtain ⟨rfl, Nr15q, er15⟩ := hQr15
              have N14 := Fr.app N13 Nr15q
              refine own_go (U' := Tr15.setTop (mkF m 221 (lc15 i0 i1 i2 i3 z1 z2 z3 0 0 1 u1 u2 u3 br4 1 0) [(.int 1), (.int 1)])) (fun t k => oicY (pc := 193) Xr13 hx hby at_193 205 (feq hs28).2 (by decide) (oiconst Xr13 hx hby at_205 (str14 _ (oiadd Xr14 hx hby at_209 (oistore Xr14 hx hby at_210 (lc15 i0 i1 i2 i3 z1 z2 z3 0 0 1 u1 u2 u3 br4 1 0) rfl (oaload Xr14 hx hby at_212 rfl rfl (oaload Xr14 hx hby at_214 rfl rfl (str15 _ (oiload Xr15 hx hby at_219 rfl k))))))))) ?_
              have f38 : Exa Z Tr8.heap u3 zs0 := (((((Exa.ext Er4 f5).keep Kr5).keep Kr6).keep Kr7).keep Kr8)
              have ne6 : u3 ≠ br4 := Nat.ne_of_lt (Nat.lt_of_lt_of_le (f6.lt) (Nat.le_of_eq gr4.symm))
              have ne7 : u3 ≠ b1 := Nat.ne_of_lt (Nat.lt_of_lt_of_le (Nat.lt_of_lt_of_le (f6.lt) Er4.1) sz1)
              have f39 : Fld Z Tr8.heap u3 zs26 "ordinal" "I" (.int z3) := (((((Fld.ext Er4 f6).keep Kr5 (ninS ne6 nin0)).keep Kr6 (ninS ne7 nin0)).keep Kr7 (ninS ne7 nin0)).keep Kr8 (ninS ne7 nin0))
              have hc29 : ¬ ((i2 &&& (7 : Int32)) = (i0 &&& (7 : Int32))) := (fun e => by have := congrArg Int32.toInt e; have : ¬ ((i0 &&& (7 : Int32))).toInt = ((i2 &&& (7 : Int32))).toInt := fun e => hk11 (Int32.toInt_inj.mp e); have := c_and i2 (7 : Int32) (by decide); have := (by decide : ((7 : Int32)).toInt = 7); have := c_and i0 (7 : Int32) (by decide); omega)
              have hs30 : ¬ (z3 = z1) := by rw [hz3, hz1]; exact hc29
              have hc31 : ¬ ((i2 &&& (7 : Int32)) = (i1 &&& (7 : Int32))) := (fun e => by have := congrArg Int32.toInt e; have : ¬ ((i1 &&& (7 : Int32))).toInt = ((i2 &&& (7 : Int32))).toInt := fun e => hk10 (Int32.toInt_inj.mp e); have := c_and i2 (7 : Int32) (by decide); have := (by decide : ((7 : Int32)).toInt = 7); have := c_and i1 (7 : Int32) (by decide); omega)
              have hs32 : ¬ (z3 = z2) := by rw [hz3, hz2]; exact hc31
              obtain ⟨_, Tr16, Lr16, Xr16, hQr16, str16⟩ := ocallV Xr15 hx hZ zm10 zm10 hown (ww hw 86 rfl) (ww hw 87 rfl) (notFace_of_selects (args := #[]) (mvT hZ (ww hw 89 rfl))) (ww hw 89 rfl) (ww hw 88 rfl) (by decide) (ww hw 90 rfl) (ww hw 13 rfl) er15 f34 (rm11_28 l Z a0 hw [] br4 u3 b1 z3 k1 z1 z2 Tr8.heap n0 Z_5 f35 f38 f39 f33 hs12 hs14 hs30 hs32) (st := [(.ref u3), (.ref br4)]) rfl 0 rfl (by decide) (pc := 228) (Ls := (lc15 i0 i1 i2 i3 z1 z2 z3 0 0 1 u1 u2 u3 br4 1 0)) hml rfl (lenOf pd_6 rfl) at_228 hby
              obtain ⟨rfl, Nr16q, er16⟩ := hQr16
              have N15 := Fr.app N14 Nr16q
              refine own_go (U' := Tr16.setTop (mkF m 233 (lc15 i0 i1 i2 i3 z1 z2 z3 0 0 1 u1 u2 u3 br4 1 0) [(.int 0), (.int 0)])) (fun t k => oicN Xr15 hx hby at_221 (by decide) (oaload Xr15 hx hby at_224 rfl rfl (oaload Xr15 hx hby at_226 rfl rfl (str16 _ (oiload Xr16 hx hby at_231 rfl k))))) ?_
              refine own_go (U' := Tr16.setTop (mkF m 241 (lc15 i0 i1 i2 i3 z1 z2 z3 0 0 1 u1 u2 u3 br4 1 0) [(.int 1)])) (fun t k => oicN Xr16 hx hby at_233 (by decide) (oiconst Xr16 hx hby at_236 (ogoto (pc := 237) Xr16 hx hby at_237 241 (by decide) k))) ?_
              obtain ⟨fs, hr, hrun, hended, hW, hsame⟩ := Xr16.leave (v := some (.int 1)) (fun h => by rw [Bd.returns] at h; cases h)
              refine own_out ⟨_, _, ?_, hrun, hended, _, _, rfl, ?_, ⟨_, rfl⟩, hW, hsame.mono (by decide) (by decide)⟩
              · exact retN Xr16 hx (t := .boolean) Bd.returns (by simp) (hb hby at_241) hr
              · exact ⟨rfl, N15⟩
    · have hc40 : ¬ ((i3 &&& (2 : Int32)) = (0 : Int32)) := hk2
      refine own_go (U' := s₁.setTop (mkF m 47 (lc4 i0 i1 i2 i3 z1 z2 z3 0 1) [(.int (i3 &&& (4 : Int32)))])) (fun t k => oifN X0 hx hby at_34 ((if0 _ _).trans (feq hc40).1) (oiconst X0 hx hby at_37 (ogoto (pc := 38) X0 hx hby at_38 42 (by decide) (oistore X0 hx hby at_42 (lc4 i0 i1 i2 i3 z1 z2 z3 0 1) rfl (oiloadN X0 hx hby at_44 rfl (oiconst X0 hx hby at_45 (oiand X0 hx hby at_46 k))))))) ?_
      by_cases hk12 : (i3 &&& (4 : Int32)) = (0 : Int32)
      · obtain ⟨_, Tr1, Lr1, Xr1, hQr1, str1⟩ := ocallS X0 hx hZ zm0 hown (ww hw 0 rfl) (ww hw 1 rfl) (by decide) (ww hw 3 rfl) (ww hw 2 rfl) e0 (mg1_8 l Z a0 hw [] z1 w0 w4 w2 w1 w5 w6 w7 w8 h0 n0 Z0 S0 S8 S4 S2 S10 S12 S14 S16) (st := [(.int z1)]) rfl 0 rfl (by decide) (pc := 59) (Ls := (lc5 i0 i1 i2 i3 z1 z2 z3 0 1 0)) hml rfl (lenOf pd_0 rfl) at_59 hby
        obtain ⟨rfl, Nr1q, er1⟩ := hQr1
        have hc2 : (i3 &&& (4 : Int32)) = (0 : Int32) := hk12
        refine own_go (U' := Tr1.setTop (mkF m 62 (lc5 i0 i1 i2 i3 z1 z2 z3 0 1 0) [(.ref (own_pick z1 w0 w4 w2 w1 w5 w6 w7 w8))])) (fun t k => oifY (pc := 47) X0 hx hby at_47 54 ((if0 _ _).trans (teq hc2).1) (by decide) (oiconst X0 hx hby at_54 (oistore X0 hx hby at_55 (lc5 i0 i1 i2 i3 z1 z2 z3 0 1 0) rfl (oiload X0 hx hby at_57 rfl (str1 _ k))))) ?_
        obtain ⟨u1, hu1⟩ : ∃ z, z = (own_pick z1 w0 w4 w2 w1 w5 w6 w7 w8) := ⟨_, rfl⟩
        rw [← hu1]
        have f1 : Exa Z h0 u1 zs0 := by rw [hu1]; exact own_pick_E S1 S9 S5 S3 S11 S13 S15 S17
        have hc3 : ¬ ((i0 &&& (7 : Int32)) < (0 : Int32)) := (fun e => by have := Int32.lt_iff_toInt_lt.mp e; have := c_and i0 (7 : Int32) (by decide); have := (by decide : ((7 : Int32)).toInt = 7); have := (by decide : ((0 : Int32)).toInt = 0); omega)
        have hs4 : ¬ (z1 < (0 : Int32)) := by rw [hz1]; exact hc3
        have hc5 : (i0 &&& (7 : Int32)) < (8 : Int32) := (Int32.lt_iff_toInt_lt.mpr (by have := c_and i0 (7 : Int32) (by decide); have := (by decide : ((7 : Int32)).toInt = 7); have := (by decide : ((8 : Int32)).toInt = 8); omega))
        have hs6 : z1 < (8 : Int32) := by rw [hz1]; exact hc5
        have f2 : Fld Z h0 u1 zs26 "ordinal" "I" (.int z1) := by rw [hu1]; exact own_pick_O S19 S24 S20 S18 S21 S25 S23 S22 hs4 hs6
        have N1 := Fr.app N0 Nr1q
        obtain ⟨_, Tr2, Lr2, Xr2, hQr2, str2⟩ := ocallS Xr1 hx hZ zm0 hown (ww hw 0 rfl) (ww hw 1 rfl) (by decide) (ww hw 3 rfl) (ww hw 2 rfl) er1 (mg1_8 l Z a0 hw [] z2 w0 w4 w2 w1 w5 w6 w7 w8 h0 n0 Z0 S0 S8 S4 S2 S10 S12 S14 S16) (st := [(.int z2)]) rfl 0 rfl (by decide) (pc := 66) (Ls := (lc7 i0 i1 i2 i3 z1 z2 z3 0 1 0 u1)) hml rfl (lenOf pd_0 rfl) at_66 hby
        obtain ⟨rfl, Nr2q, er2⟩ := hQr2
        refine own_go (U' := Tr2.setTop (mkF m 69 (lc7 i0 i1 i2 i3 z1 z2 z3 0 1 0 u1) [(.ref (own_pick z2 w0 w4 w2 w1 w5 w6 w7 w8))])) (fun t k => oastore Xr1 hx hby at_62 (lc7 i0 i1 i2 i3 z1 z2 z3 0 1 0 u1) rfl rfl (oiload Xr1 hx hby at_64 rfl (str2 _ k))) ?_
        obtain ⟨u2, hu2⟩ : ∃ z, z = (own_pick z2 w0 w4 w2 w1 w5 w6 w7 w8) := ⟨_, rfl⟩
        rw [← hu2]
        have f3 : Exa Z h0 u2 zs0 := by rw [hu2]; exact own_pick_E S1 S9 S5 S3 S11 S13 S15 S17
        have hc7 : ¬ ((i1 &&& (7 : Int32)) < (0 : Int32)) := (fun e => by have := Int32.lt_iff_toInt_lt.mp e; have := c_and i1 (7 : Int32) (by decide); have := (by decide : ((7 : Int32)).toInt = 7); have := (by decide : ((0 : Int32)).toInt = 0); omega)
        have hs8 : ¬ (z2 < (0 : Int32)) := by rw [hz2]; exact hc7
        have hc9 : (i1 &&& (7 : Int32)) < (8 : Int32) := (Int32.lt_iff_toInt_lt.mpr (by have := c_and i1 (7 : Int32) (by decide); have := (by decide : ((7 : Int32)).toInt = 7); have := (by decide : ((8 : Int32)).toInt = 8); omega))
        have hs10 : z2 < (8 : Int32) := by rw [hz2]; exact hc9
        have f4 : Fld Z h0 u2 zs26 "ordinal" "I" (.int z2) := by rw [hu2]; exact own_pick_O S19 S24 S20 S18 S21 S25 S23 S22 hs8 hs10
        have N2 := Fr.app N1 Nr2q
        obtain ⟨_, Tr3, Lr3, Xr3, hQr3, str3⟩ := ocallS Xr2 hx hZ zm0 hown (ww hw 0 rfl) (ww hw 1 rfl) (by decide) (ww hw 3 rfl) (ww hw 2 rfl) er2 (mg1_8 l Z a0 hw [] z3 w0 w4 w2 w1 w5 w6 w7 w8 h0 n0 Z0 S0 S8 S4 S2 S10 S12 S14 S16) (st := [(.int z3)]) rfl 0 rfl (by decide) (pc := 73) (Ls := (lc8 i0 i1 i2 i3 z1 z2 z3 0 1 0 u1 u2)) hml rfl (lenOf pd_0 rfl) at_73 hby
        obtain ⟨rfl, Nr3q, er3⟩ := hQr3
        refine own_go (U' := Tr3.setTop (mkF m 76 (lc8 i0 i1 i2 i3 z1 z2 z3 0 1 0 u1 u2) [(.ref (own_pick z3 w0 w4 w2 w1 w5 w6 w7 w8))])) (fun t k => oastore Xr2 hx hby at_69 (lc8 i0 i1 i2 i3 z1 z2 z3 0 1 0 u1 u2) rfl rfl (oiload Xr2 hx hby at_71 rfl (str3 _ k))) ?_
        obtain ⟨u3, hu3⟩ : ∃ z, z = (own_pick z3 w0 w4 w2 w1 w5 w6 w7 w8) := ⟨_, rfl⟩
        rw [← hu3]
        have f5 : Exa Z h0 u3 zs0 := by rw [hu3]; exact own_pick_E S1 S9 S5 S3 S11 S13 S15 S17
        have hc11 : ¬ ((i2 &&& (7 : Int32)) < (0 : Int32)) := (fun e => by have := Int32.lt_iff_toInt_lt.mp e; have := c_and i2 (7 : Int32) (by decide); have := (by decide : ((7 : Int32)).toInt = 7); have := (by decide : ((0 : Int32)).toInt = 0); omega)
        have hs12 : ¬ (z3 < (0 : Int32)) := by rw [hz3]; exact hc11
        have hc13 : (i2 &&& (7 : Int32)) < (8 : Int32) := (Int32.lt_iff_toInt_lt.mpr (by have := c_and i2 (7 : Int32) (by decide); have := (by decide : ((7 : Int32)).toInt = 7); have := (by decide : ((8 : Int32)).toInt = 8); omega))
        have hs14 : z3 < (8 : Int32) := by rw [hz3]; exact hc13
        have f6 : Fld Z h0 u3 zs26 "ordinal" "I" (.int z3) := by rw [hu3]; exact own_pick_O S19 S24 S20 S18 S21 S25 S23 S22 hs12 hs14
        have N3 := Fr.app N2 Nr3q
        obtain ⟨Tr4, hr4, Xr4, er4, Er4, Ar4, Dr4, -, str4⟩ := newO Xr3 hx hZ hown (ww hw 11 rfl) (ww hw 12 rfl) (ww hw 13 rfl) er3 (g := (mkF m 78 (lc9 i0 i1 i2 i3 z1 z2 z3 0 1 0 u1 u2 u3) [])) rfl (hb hby at_78) (by decide) (by decide)
        obtain ⟨br4, gr4⟩ : ∃ z, z = h0.size := ⟨_, rfl⟩
        rw [← gr4] at Ar4 Dr4 str4
        have f7 : Fld Z hr4 br4 zs22 "counts" "[I" .null := Dr4 (Or.inr (ww hw 42 rfl)) (ty := (.array .int)) (by decide)
        have f8 : Fld Z hr4 br4 zs22 zs23 zs24 .null := Dr4 (Or.inr (ww hw 68 rfl)) (ty := (.object zs25)) (by decide)
        have f9 : Sta Z hr4 zs0 "$VALUES" zs12 (.ref w3) := (Sta.ext Er4 S6)
        have f10 : Arv Z hr4 w3 kl0 (.object zs0) (8 : Int32) [(.ref w0), (.ref w4), (.ref w2), (.ref w1), (.ref w5), (.ref w6), (.ref w7), (.ref w8)] .null := (S30.ext Er4)
        have f11 : Exa Z hr4 w3 zs12 := (Exa.ext Er4 S7)
        have g1 : n0 ≤ br4 := Nat.le_trans Z0 (Nat.le_of_eq gr4.symm)
        have f12 : Sta Z hr4 zs17 zs21 zs19 (.ref w10) := (Sta.ext Er4 S28)
        have Z_1 : n0 ≤ hr4.size := Nat.le_trans Z0 Er4.1
        obtain ⟨_, Tr5, Lr5, Xr5, hQr5, str5⟩ := ocallI Xr4 hx hZ zm5 rfl hown (ww hw 14 rfl) (ww hw 15 rfl) (by decide) (ww hw 16 rfl) (ww hw 13 rfl) er4 (rm2_13 l Z a0 hw [] br4 w3 w0 w4 w2 w1 w5 w6 w7 w8 kl0 w10 hr4 n0 Z_1 f9 f10 f11 f7 f8 Ar4 g1 f12) (st := [(.ref br4), (.ref br4)]) rfl 1 rfl (by decide) (pc := 82) (Ls := (lc9 i0 i1 i2 i3 z1 z2 z3 0 1 0 u1 u2 u3)) hml rfl (lenOf pd_2 rfl) at_82 hby
        obtain ⟨b1, b2, k1, rfl, Nr5q, Kr5, sz1, sz2, ne1, f13, f14, f15, f16, f17, f18, f19⟩ := hQr5
        have N4 := Fr.app N3 Nr5q
        have f20 : Exa Z Tr5.heap br4 zs22 := (Ar4.keep Kr5)
        have f21 : Exa Z Tr5.heap u2 zs0 := ((Exa.ext Er4 f3).keep Kr5)
        have ne2 : u2 ≠ br4 := Nat.ne_of_lt (Nat.lt_of_lt_of_le (f4.lt) (Nat.le_of_eq gr4.symm))
        have f22 : Fld Z Tr5.heap u2 zs26 "ordinal" "I" (.int z2) := ((Fld.ext Er4 f4).keep Kr5 (ninS ne2 nin0))
        have g2 : n0 ≤ b1 := Nat.le_trans Z_1 sz1
        have Z_2 : n0 ≤ Tr5.heap.size := Nat.le_trans Z_1 Kr5.1
        obtain ⟨_, Tr6, Lr6, Xr6, hQr6, str6⟩ := ocallV Xr5 hx hZ zm7 zm7 hown (ww hw 69 rfl) (ww hw 70 rfl) (notFace_of_selects (args := #[]) (mvT hZ (ww hw 72 rfl))) (ww hw 72 rfl) (ww hw 71 rfl) (by decide) (ww hw 73 rfl) (ww hw 13 rfl) rfl f20 (rm8_15 l Z a0 hw [] br4 u2 b1 z2 k1 Tr5.heap n0 Z_2 f13 f21 f22 f16 hs8 hs10 g2) (st := [(.int 0), (.ref u2), (.ref br4)]) rfl 0 rfl (by decide) (pc := 93) (Ls := (lc12 i0 i1 i2 i3 z1 z2 z3 0 1 0 u1 u2 u3 br4)) hml rfl (lenOf pd_4 rfl) at_93 hby
        obtain ⟨rfl, Nr6q, Kr6, f23⟩ := hQr6
        have N5 := Fr.app N4 Nr6q
        have f24 : Exa Z Tr6.heap br4 zs22 := (f20.keep Kr6)
        have ne3 : br4 ≠ b1 := Nat.ne_of_lt (Nat.lt_of_lt_of_le (f7.lt) sz1)
        have f25 : Fld Z Tr6.heap br4 zs22 "counts" "[I" (.ref b1) := (f13.keep Kr6 (ninS ne3 nin0))
        have f26 : Exa Z Tr6.heap u1 zs0 := (((Exa.ext Er4 f1).keep Kr5).keep Kr6)
        have ne4 : u1 ≠ br4 := Nat.ne_of_lt (Nat.lt_of_lt_of_le (f2.lt) (Nat.le_of_eq gr4.symm))
        have ne5 : u1 ≠ b1 := Nat.ne_of_lt (Nat.lt_of_lt_of_le (Nat.lt_of_lt_of_le (f2.lt) Er4.1) sz1)
        have f27 : Fld Z Tr6.heap u1 zs26 "ordinal" "I" (.int z1) := (((Fld.ext Er4 f2).keep Kr5 (ninS ne4 nin0)).keep Kr6 (ninS ne5 nin0))
        have Z_3 : n0 ≤ Tr6.heap.size := Nat.le_trans Z_2 Kr6.1
        by_cases hk13 : (i0 &&& (7 : Int32)) = (i1 &&& (7 : Int32))
        · have hc15 : (i0 &&& (7 : Int32)) = (i1 &&& (7 : Int32)) := hk13
          have hs16 : z1 = z2 := by rw [hz2, hz1]; exact hc15
          obtain ⟨_, Tr7, Lr7, Xr7, hQr7, str7⟩ := ocallV Xr6 hx hZ zm7 zm7 hown (ww hw 69 rfl) (ww hw 70 rfl) (notFace_of_selects (args := #[]) (mvT hZ (ww hw 72 rfl))) (ww hw 72 rfl) (ww hw 71 rfl) (by decide) (ww hw 73 rfl) (ww hw 13 rfl) rfl f24 (rm8_30 l Z a0 hw [] br4 u1 b1 z1 k1 z2 Tr6.heap n0 Z_3 f25 f26 f27 f23 hs4 hs6 hs16 g2) (st := [(.int 1), (.ref u1), (.ref br4)]) rfl 0 rfl (by decide) (pc := 102) (Ls := (lc12 i0 i1 i2 i3 z1 z2 z3 0 1 0 u1 u2 u3 br4)) hml rfl (lenOf pd_4 rfl) at_102 hby
          obtain ⟨rfl, Nr7q, Kr7, f28⟩ := hQr7
          have N6 := Fr.app N5 Nr7q
          have f29 : Exa Z Tr7.heap br4 zs22 := (f24.keep Kr7)
          have f30 : Fld Z Tr7.heap br4 zs22 "counts" "[I" (.ref b1) := (f25.keep Kr7 (ninS ne3 nin0))
          have f31 : Exa Z Tr7.heap u1 zs0 := (f26.keep Kr7)
          have f32 : Fld Z Tr7.heap u1 zs26 "ordinal" "I" (.int z1) := (f27.keep Kr7 (ninS ne5 nin0))
          have Z_4 : n0 ≤ Tr7.heap.size := Nat.le_trans Z_3 Kr7.1
          obtain ⟨_, Tr8, Lr8, Xr8, hQr8, str8⟩ := ocallV Xr7 hx hZ zm7 zm7 hown (ww hw 69 rfl) (ww hw 70 rfl) (notFace_of_selects (args := #[]) (mvT hZ (ww hw 72 rfl))) (ww hw 72 rfl) (ww hw 71 rfl) (by decide) (ww hw 73 rfl) (ww hw 13 rfl) rfl f29 (rm8_31 l Z a0 hw [] br4 u1 b1 z1 k1 z2 Tr7.heap n0 Z_4 f30 f31 f32 f28 hs4 hs6 g2) (st := [(.int 0), (.ref u1), (.ref br4)]) rfl 0 rfl (by decide) (pc := 111) (Ls := (lc12 i0 i1 i2 i3 z1 z2 z3 0 1 0 u1 u2 u3 br4)) hml rfl (lenOf pd_4 rfl) at_111 hby
          obtain ⟨rfl, Nr8q, Kr8, f33⟩ := hQr8
          have N7 := Fr.app N6 Nr8q
          refine own_go (U' := Tr8.setTop (mkF m 118 (lc12 i0 i1 i2 i3 z1 z2 z3 0 1 0 u1 u2 u3 br4) [(.int z1), (.int z2)])) (fun t k => oastore Xr3 hx hby at_76 (lc9 i0 i1 i2 i3 z1 z2 z3 0 1 0 u1 u2 u3) rfl rfl (str4 _ (odup Xr4 hx hby at_81 rfl (str5 _ (oastore Xr5 hx hby at_85 (lc12 i0 i1 i2 i3 z1 z2 z3 0 1 0 u1 u2 u3 br4) rfl rfl (oaload Xr5 hx hby at_87 rfl rfl (oaload Xr5 hx hby at_89 rfl rfl (oiload Xr5 hx hby at_91 rfl (str6 _ (oaload Xr6 hx hby at_96 rfl rfl (oaload Xr6 hx hby at_98 rfl rfl (oiload Xr6 hx hby at_100 rfl (str7 _ (oaload Xr7 hx hby at_105 rfl rfl (oaload Xr7 hx hby at_107 rfl rfl (oiload Xr7 hx hby at_109 rfl (str8 _ (oiload Xr8 hx hby at_114 rfl (oiload Xr8 hx hby at_116 rfl k))))))))))))))))))) ?_
          have hc17 : (i1 &&& (7 : Int32)) = (i0 &&& (7 : Int32)) := (Int32.toInt_inj.mp (by have := congrArg Int32.toInt hk13; have := c_and i1 (7 : Int32) (by decide); have := (by decide : ((7 : Int32)).toInt = 7); have := c_and i0 (7 : Int32) (by decide); omega))
          have hs18 : z2 = z1 := by rw [hz2, hz1]; exact hc17
          refine own_go (U' := Tr8.setTop (mkF m 123 (lc12 i0 i1 i2 i3 z1 z2 z3 0 1 0 u1 u2 u3 br4) [(.int 0)])) (fun t k => oicN Xr8 hx hby at_118 (teq hs18).2 (oiload Xr8 hx hby at_121 rfl k)) ?_
          have Z_5 : n0 ≤ Tr8.heap.size := Nat.le_trans Z_4 Kr8.1
          obtain ⟨_, Tr9, Lr9, Xr9, hQr9, str9⟩ := ocallS Xr8 hx hZ zm9 hown (ww hw 83 rfl) (ww hw 84 rfl) (by decide) (ww hw 85 rfl) (ww hw 2 rfl) rfl (rm10_18 l Z a0 hw []  Tr8.heap n0 Z_5 ) (st := [(.int 0)]) rfl 0 rfl (by decide) (pc := 131) (Ls := (lc12 i0 i1 i2 i3 z1 z2 z3 0 1 0 u1 u2 u3 br4)) hml rfl (lenOf pd_5 rfl) at_131 hby
          obtain ⟨rfl, Nr9q, er9⟩ := hQr9
          have N8 := Fr.app N7 Nr9q
          obtain ⟨_, Tr10, Lr10, Xr10, hQr10, str10⟩ := ocallS Xr9 hx hZ zm9 hown (ww hw 83 rfl) (ww hw 84 rfl) (by decide) (ww hw 85 rfl) (ww hw 2 rfl) er9 (rm10_25 l Z a0 hw []  Tr8.heap n0 Z_5 ) (st := [(.int 1), (.int 0)]) rfl 1 rfl (by decide) (pc := 136) (Ls := (lc12 i0 i1 i2 i3 z1 z2 z3 0 1 0 u1 u2 u3 br4)) hml rfl (lenOf pd_5 rfl) at_136 hby
          obtain ⟨rfl, Nr10q, er10⟩ := hQr10
          have N9 := Fr.app N8 Nr10q
          obtain ⟨_, Tr11, Lr11, Xr11, hQr11, str11⟩ := ocallS Xr10 hx hZ zm9 hown (ww hw 83 rfl) (ww hw 84 rfl) (by decide) (ww hw 85 rfl) (ww hw 2 rfl) er10 (rm10_18 l Z a0 hw []  Tr8.heap n0 Z_5 ) (st := [(.int 0), (.int 1)]) rfl 1 rfl (by decide) (pc := 142) (Ls := (lc12 i0 i1 i2 i3 z1 z2 z3 0 1 0 u1 u2 u3 br4)) hml rfl (lenOf pd_5 rfl) at_142 hby
          obtain ⟨rfl, Nr11q, er11⟩ := hQr11
          have N10 := Fr.app N9 Nr11q
          refine own_go (U' := Tr11.setTop (mkF m 152 (lc14 i0 i1 i2 i3 z1 z2 z3 0 1 0 u1 u2 u3 br4 1) [(.int z3), (.int z2)])) (fun t k => oifY (pc := 123) Xr8 hx hby at_123 130 (by decide) (by decide) (oiconst Xr8 hx hby at_130 (str9 _ (oiload Xr9 hx hby at_134 rfl (str10 _ (oiadd Xr10 hx hby at_139 (oiload Xr10 hx hby at_140 rfl (str11 _ (oiadd Xr11 hx hby at_145 (oistore Xr11 hx hby at_146 (lc14 i0 i1 i2 i3 z1 z2 z3 0 1 0 u1 u2 u3 br4 1) rfl (oiload Xr11 hx hby at_148 rfl (oiload Xr11 hx hby at_150 rfl k)))))))))))) ?_
          by_cases hk14 : (i1 &&& (7 : Int32)) = (i2 &&& (7 : Int32))
          · have hc19 : (i1 &&& (7 : Int32)) = (i2 &&& (7 : Int32)) := hk14
            have hs20 : z2 = z3 := by rw [hz3, hz2]; exact hc19
            refine own_go (U' := Tr11.setTop (mkF m 157 (lc14 i0 i1 i2 i3 z1 z2 z3 0 1 0 u1 u2 u3 br4 1) [(.int 0)])) (fun t k => oicN Xr11 hx hby at_152 (teq hs20).2 (oiload Xr11 hx hby at_155 rfl k)) ?_
            obtain ⟨_, Tr12, Lr12, Xr12, hQr12, str12⟩ := ocallS Xr11 hx hZ zm9 hown (ww hw 83 rfl) (ww hw 84 rfl) (by decide) (ww hw 85 rfl) (ww hw 2 rfl) er11 (rm10_18 l Z a0 hw []  Tr8.heap n0 Z_5 ) (st := [(.int 0)]) rfl 0 rfl (by decide) (pc := 165) (Ls := (lc14 i0 i1 i2 i3 z1 z2 z3 0 1 0 u1 u2 u3 br4 1)) hml rfl (lenOf pd_5 rfl) at_165 hby
            obtain ⟨rfl, Nr12q, er12⟩ := hQr12
            have N11 := Fr.app N10 Nr12q
            refine own_go (U' := Tr12.setTop (mkF m 172 (lc14 i0 i1 i2 i3 z1 z2 z3 0 1 0 u1 u2 u3 br4 1) [(.int z3), (.int z1), (.int 0)])) (fun t k => oifY (pc := 157) Xr11 hx hby at_157 164 (by decide) (by decide) (oiconst Xr11 hx hby at_164 (str12 _ (oiload Xr12 hx hby at_168 rfl (oiload Xr12 hx hby at_170 rfl k))))) ?_
            have hc21 : (i0 &&& (7 : Int32)) = (i2 &&& (7 : Int32)) := (Int32.toInt_inj.mp (by have := congrArg Int32.toInt hk13; have := congrArg Int32.toInt hk14; have := c_and i0 (7 : Int32) (by decide); have := (by decide : ((7 : Int32)).toInt = 7); have := c_and i2 (7 : Int32) (by decide); have := c_and i1 (7 : Int32) (by decide); omega))
            have hs22 : z1 = z3 := by rw [hz3, hz1]; exact hc21
            refine own_go (U' := Tr12.setTop (mkF m 177 (lc14 i0 i1 i2 i3 z1 z2 z3 0 1 0 u1 u2 u3 br4 1) [(.int 1), (.int 0)])) (fun t k => oicN Xr12 hx hby at_172 (teq hs22).2 (oiload Xr12 hx hby at_175 rfl k)) ?_
            obtain ⟨_, Tr13, Lr13, Xr13, hQr13, str13⟩ := ocallS Xr12 hx hZ zm9 hown (ww hw 83 rfl) (ww hw 84 rfl) (by decide) (ww hw 85 rfl) (ww hw 2 rfl) er12 (rm10_25 l Z a0 hw []  Tr8.heap n0 Z_5 ) (st := [(.int 1), (.int 0)]) rfl 1 rfl (by decide) (pc := 185) (Ls := (lc14 i0 i1 i2 i3 z1 z2 z3 0 1 0 u1 u2 u3 br4 1)) hml rfl (lenOf pd_5 rfl) at_185 hby
            obtain ⟨rfl, Nr13q, er13⟩ := hQr13
            have N12 := Fr.app N11 Nr13q
            refine own_go (U' := Tr13.setTop (mkF m 193 (lc14 i0 i1 i2 i3 z1 z2 z3 0 1 0 u1 u2 u3 br4 1) [(.int z3), (.int z1), (.int 1)])) (fun t k => oifN Xr12 hx hby at_177 (by decide) (oiconst Xr12 hx hby at_180 (ogoto (pc := 181) Xr12 hx hby at_181 185 (by decide) (str13 _ (oiadd Xr13 hx hby at_188 (oiload Xr13 hx hby at_189 rfl (oiload Xr13 hx hby at_191 rfl k))))))) ?_
            refine own_go (U' := Tr13.setTop (mkF m 198 (lc14 i0 i1 i2 i3 z1 z2 z3 0 1 0 u1 u2 u3 br4 1) [(.int 0), (.int 1)])) (fun t k => oicN Xr13 hx hby at_193 (teq hs22).2 (oiload Xr13 hx hby at_196 rfl k)) ?_
            obtain ⟨_, Tr14, Lr14, Xr14, hQr14, str14⟩ := ocallS Xr13 hx hZ zm9 hown (ww hw 83 rfl) (ww hw 84 rfl) (by decide) (ww hw 85 rfl) (ww hw 2 rfl) er13 (rm10_18 l Z a0 hw []  Tr8.heap n0 Z_5 ) (st := [(.int 0), (.int 1)]) rfl 1 rfl (by decide) (pc := 206) (Ls := (lc14 i0 i1 i2 i3 z1 z2 z3 0 1 0 u1 u2 u3 br4 1)) hml rfl (lenOf pd_5 rfl) at_206 hby
            obtain ⟨rfl, Nr14q, er14⟩ := hQr14
            have N13 := Fr.app N12 Nr14q
            have f34 : Exa Z Tr8.heap br4 zs22 := (f29.keep Kr8)
            have f35 : Fld Z Tr8.heap br4 zs22 "counts" "[I" (.ref b1) := (f30.keep Kr8 (ninS ne3 nin0))
            have f36 : Exa Z Tr8.heap u1 zs0 := (f31.keep Kr8)
            have f37 : Fld Z Tr8.heap u1 zs26 "ordinal" "I" (.int z1) := (f32.keep Kr8 (ninS ne5 nin0))
            obtain ⟨_, Tr15, Lr15, Xr15, hQr15, str15⟩ := ocallV Xr14 hx hZ zm10 zm10 hown (ww hw 86 rfl) (ww hw 87 rfl) (notFace_of_selects (args := #[]) (mvT hZ (ww hw 89 rfl))) (ww hw 89 rfl) (ww hw 88 rfl) (by decide) (ww hw 90 rfl) (ww hw 13 rfl) er14 f34 (rm11_32 l Z a0 hw [] br4 u1 b1 z1 k1 z2 Tr8.heap n0 Z_5 f35 f36 f37 f33 hs4 hs6) (st := [(.ref u1), (.ref br4)]) rfl 0 rfl (by decide) (pc := 216) (Ls := (lc15 i0 i1 i2 i3 z1 z2 z3 0 1 0 u1 u2 u3 br4 1 1)) hml rfl (lenOf pd_6 rfl) at_216 hby
            obtain ⟨rfl, Nr15q, er15⟩ := hQr15
            have N14 := Fr.app N13 Nr15q
            refine own_go (U' := Tr15.setTop (mkF m 221 (lc15 i0 i1 i2 i3 z1 z2 z3 0 1 0 u1 u2 u3 br4 1 1) [(.int 1), (.int 1)])) (fun t k => oifY (pc := 198) Xr13 hx hby at_198 205 (by decide) (by decide) (oiconst Xr13 hx hby at_205 (str14 _ (oiadd Xr14 hx hby at_209 (oistore Xr14 hx hby at_210 (lc15 i0 i1 i2 i3 z1 z2 z3 0 1 0 u1 u2 u3 br4 1 1) rfl (oaload Xr14 hx hby at_212 rfl rfl (oaload Xr14 hx hby at_214 rfl rfl (str15 _ (oiload Xr15 hx hby at_219 rfl k))))))))) ?_
            have f38 : Exa Z Tr8.heap u3 zs0 := (((((Exa.ext Er4 f5).keep Kr5).keep Kr6).keep Kr7).keep Kr8)
            have ne6 : u3 ≠ br4 := Nat.ne_of_lt (Nat.lt_of_lt_of_le (f6.lt) (Nat.le_of_eq gr4.symm))
            have ne7 : u3 ≠ b1 := Nat.ne_of_lt (Nat.lt_of_lt_of_le (Nat.lt_of_lt_of_le (f6.lt) Er4.1) sz1)
            have f39 : Fld Z Tr8.heap u3 zs26 "ordinal" "I" (.int z3) := (((((Fld.ext Er4 f6).keep Kr5 (ninS ne6 nin0)).keep Kr6 (ninS ne7 nin0)).keep Kr7 (ninS ne7 nin0)).keep Kr8 (ninS ne7 nin0))
            have hc23 : (i2 &&& (7 : Int32)) = (i0 &&& (7 : Int32)) := (Int32.toInt_inj.mp (by have := congrArg Int32.toInt hk13; have := congrArg Int32.toInt hk14; have := c_and i2 (7 : Int32) (by decide); have := (by decide : ((7 : Int32)).toInt = 7); have := c_and i0 (7 : Int32) (by decide); have := c_and i1 (7 : Int32) (by decide); omega))
            have hs24 : z3 = z1 := by rw [hz3, hz1]; exact hc23
            obtain ⟨_, Tr16, Lr16, Xr16, hQr16, str16⟩ := ocallV Xr15 hx hZ zm10 zm10 hown (ww hw 86 rfl) (ww hw 87 rfl) (notFace_of_selects (args := #[]) (mvT hZ (ww hw 89 rfl))) (ww hw 89 rfl) (ww hw 88 rfl) (by decide) (ww hw 90 rfl) (ww hw 13 rfl) er15 f34 (rm11_33 l Z a0 hw [] br4 u3 b1 z3 k1 z1 z2 Tr8.heap n0 Z_5 f35 f38 f39 f33 hs12 hs14 hs24) (st := [(.ref u3), (.ref br4)]) rfl 0 rfl (by decide) (pc := 228) (Ls := (lc15 i0 i1 i2 i3 z1 z2 z3 0 1 0 u1 u2 u3 br4 1 1)) hml rfl (lenOf pd_6 rfl) at_228 hby
            obtain ⟨rfl, Nr16q, er16⟩ := hQr16
            have N15 := Fr.app N14 Nr16q
            refine own_go (U' := Tr16.setTop (mkF m 233 (lc15 i0 i1 i2 i3 z1 z2 z3 0 1 0 u1 u2 u3 br4 1 1) [(.int 1), (.int 1)])) (fun t k => oicN Xr15 hx hby at_221 (by decide) (oaload Xr15 hx hby at_224 rfl rfl (oaload Xr15 hx hby at_226 rfl rfl (str16 _ (oiload Xr16 hx hby at_231 rfl k))))) ?_
            refine own_go (U' := Tr16.setTop (mkF m 241 (lc15 i0 i1 i2 i3 z1 z2 z3 0 1 0 u1 u2 u3 br4 1 1) [(.int 1)])) (fun t k => oicN Xr16 hx hby at_233 (by decide) (oiconst Xr16 hx hby at_236 (ogoto (pc := 237) Xr16 hx hby at_237 241 (by decide) k))) ?_
            obtain ⟨fs, hr, hrun, hended, hW, hsame⟩ := Xr16.leave (v := some (.int 1)) (fun h => by rw [Bd.returns] at h; cases h)
            refine own_out ⟨_, _, ?_, hrun, hended, _, _, rfl, ?_, ⟨_, rfl⟩, hW, hsame.mono (by decide) (by decide)⟩
            · exact retN Xr16 hx (t := .boolean) Bd.returns (by simp) (hb hby at_241) hr
            · exact ⟨rfl, N15⟩
          · obtain ⟨_, Tr12, Lr12, Xr12, hQr12, str12⟩ := ocallS Xr11 hx hZ zm9 hown (ww hw 83 rfl) (ww hw 84 rfl) (by decide) (ww hw 85 rfl) (ww hw 2 rfl) er11 (rm10_18 l Z a0 hw []  Tr8.heap n0 Z_5 ) (st := [(.int 0)]) rfl 0 rfl (by decide) (pc := 165) (Ls := (lc14 i0 i1 i2 i3 z1 z2 z3 0 1 0 u1 u2 u3 br4 1)) hml rfl (lenOf pd_5 rfl) at_165 hby
            obtain ⟨rfl, Nr12q, er12⟩ := hQr12
            have N11 := Fr.app N10 Nr12q
            have hc25 : ¬ ((i1 &&& (7 : Int32)) = (i2 &&& (7 : Int32))) := hk14
            have hs26 : ¬ (z2 = z3) := by rw [hz3, hz2]; exact hc25
            refine own_go (U' := Tr12.setTop (mkF m 172 (lc14 i0 i1 i2 i3 z1 z2 z3 0 1 0 u1 u2 u3 br4 1) [(.int z3), (.int z1), (.int 0)])) (fun t k => oicY (pc := 152) Xr11 hx hby at_152 164 (feq hs26).2 (by decide) (oiconst Xr11 hx hby at_164 (str12 _ (oiload Xr12 hx hby at_168 rfl (oiload Xr12 hx hby at_170 rfl k))))) ?_
            obtain ⟨_, Tr13, Lr13, Xr13, hQr13, str13⟩ := ocallS Xr12 hx hZ zm9 hown (ww hw 83 rfl) (ww hw 84 rfl) (by decide) (ww hw 85 rfl) (ww hw 2 rfl) er12 (rm10_18 l Z a0 hw []  Tr8.heap n0 Z_5 ) (st := [(.int 0), (.int 0)]) rfl 1 rfl (by decide) (pc := 185) (Ls := (lc14 i0 i1 i2 i3 z1 z2 z3 0 1 0 u1 u2 u3 br4 1)) hml rfl (lenOf pd_5 rfl) at_185 hby
            obtain ⟨rfl, Nr13q, er13⟩ := hQr13
            have N12 := Fr.app N11 Nr13q
            have hc27 : ¬ ((i0 &&& (7 : Int32)) = (i2 &&& (7 : Int32))) := (fun e => by have := congrArg Int32.toInt e; have := congrArg Int32.toInt hk13; have : ¬ ((i1 &&& (7 : Int32))).toInt = ((i2 &&& (7 : Int32))).toInt := fun e => hk14 (Int32.toInt_inj.mp e); have := c_and i0 (7 : Int32) (by decide); have := (by decide : ((7 : Int32)).toInt = 7); have := c_and i2 (7 : Int32) (by decide); have := c_and i1 (7 : Int32) (by decide); omega)
            have hs28 : ¬ (z1 = z3) := by rw [hz3, hz1]; exact hc27
            refine own_go (U' := Tr13.setTop (mkF m 193 (lc14 i0 i1 i2 i3 z1 z2 z3 0 1 0 u1 u2 u3 br4 1) [(.int z3), (.int z1), (.int 0)])) (fun t k => oicY (pc := 172) Xr12 hx hby at_172 184 (feq hs28).2 (by decide) (oiconst Xr12 hx hby at_184 (str13 _ (oiadd Xr13 hx hby at_188 (oiload Xr13 hx hby at_189 rfl (oiload Xr13 hx hby at_191 rfl k)))))) ?_
            obtain ⟨_, Tr14, Lr14, Xr14, hQr14, str14⟩ := ocallS Xr13 hx hZ zm9 hown (ww hw 83 rfl) (ww hw 84 rfl) (by decide) (ww hw 85 rfl) (ww hw 2 rfl) er13 (rm10_18 l Z a0 hw []  Tr8.heap n0 Z_5 ) (st := [(.int 0), (.int 0)]) rfl 1 rfl (by decide) (pc := 206) (Ls := (lc14 i0 i1 i2 i3 z1 z2 z3 0 1 0 u1 u2 u3 br4 1)) hml rfl (lenOf pd_5 rfl) at_206 hby
            obtain ⟨rfl, Nr14q, er14⟩ := hQr14
            have N13 := Fr.app N12 Nr14q
            have f34 : Exa Z Tr8.heap br4 zs22 := (f29.keep Kr8)
            have f35 : Fld Z Tr8.heap br4 zs22 "counts" "[I" (.ref b1) := (f30.keep Kr8 (ninS ne3 nin0))
            have f36 : Exa Z Tr8.heap u1 zs0 := (f31.keep Kr8)
            have f37 : Fld Z Tr8.heap u1 zs26 "ordinal" "I" (.int z1) := (f32.keep Kr8 (ninS ne5 nin0))
            obtain ⟨_, Tr15, Lr15, Xr15, hQr15, str15⟩ := ocallV Xr14 hx hZ zm10 zm10 hown (ww hw 86 rfl) (ww hw 87 rfl) (notFace_of_selects (args := #[]) (mvT hZ (ww hw 89 rfl))) (ww hw 89 rfl) (ww hw 88 rfl) (by decide) (ww hw 90 rfl) (ww hw 13 rfl) er14 f34 (rm11_32 l Z a0 hw [] br4 u1 b1 z1 k1 z2 Tr8.heap n0 Z_5 f35 f36 f37 f33 hs4 hs6) (st := [(.ref u1), (.ref br4)]) rfl 0 rfl (by decide) (pc := 216) (Ls := (lc15 i0 i1 i2 i3 z1 z2 z3 0 1 0 u1 u2 u3 br4 1 0)) hml rfl (lenOf pd_6 rfl) at_216 hby
            obtain ⟨rfl, Nr15q, er15⟩ := hQr15
            have N14 := Fr.app N13 Nr15q
            refine own_go (U' := Tr15.setTop (mkF m 221 (lc15 i0 i1 i2 i3 z1 z2 z3 0 1 0 u1 u2 u3 br4 1 0) [(.int 1), (.int 1)])) (fun t k => oicY (pc := 193) Xr13 hx hby at_193 205 (feq hs28).2 (by decide) (oiconst Xr13 hx hby at_205 (str14 _ (oiadd Xr14 hx hby at_209 (oistore Xr14 hx hby at_210 (lc15 i0 i1 i2 i3 z1 z2 z3 0 1 0 u1 u2 u3 br4 1 0) rfl (oaload Xr14 hx hby at_212 rfl rfl (oaload Xr14 hx hby at_214 rfl rfl (str15 _ (oiload Xr15 hx hby at_219 rfl k))))))))) ?_
            have f38 : Exa Z Tr8.heap u3 zs0 := (((((Exa.ext Er4 f5).keep Kr5).keep Kr6).keep Kr7).keep Kr8)
            have ne6 : u3 ≠ br4 := Nat.ne_of_lt (Nat.lt_of_lt_of_le (f6.lt) (Nat.le_of_eq gr4.symm))
            have ne7 : u3 ≠ b1 := Nat.ne_of_lt (Nat.lt_of_lt_of_le (Nat.lt_of_lt_of_le (f6.lt) Er4.1) sz1)
            have f39 : Fld Z Tr8.heap u3 zs26 "ordinal" "I" (.int z3) := (((((Fld.ext Er4 f6).keep Kr5 (ninS ne6 nin0)).keep Kr6 (ninS ne7 nin0)).keep Kr7 (ninS ne7 nin0)).keep Kr8 (ninS ne7 nin0))
            have hc29 : ¬ ((i2 &&& (7 : Int32)) = (i0 &&& (7 : Int32))) := (fun e => by have := congrArg Int32.toInt e; have := congrArg Int32.toInt hk13; have : ¬ ((i1 &&& (7 : Int32))).toInt = ((i2 &&& (7 : Int32))).toInt := fun e => hk14 (Int32.toInt_inj.mp e); have := c_and i2 (7 : Int32) (by decide); have := (by decide : ((7 : Int32)).toInt = 7); have := c_and i0 (7 : Int32) (by decide); have := c_and i1 (7 : Int32) (by decide); omega)
            have hs30 : ¬ (z3 = z1) := by rw [hz3, hz1]; exact hc29
            have hc31 : ¬ ((i2 &&& (7 : Int32)) = (i1 &&& (7 : Int32))) := (fun e => by have := congrArg Int32.toInt e; have : ¬ ((i1 &&& (7 : Int32))).toInt = ((i2 &&& (7 : Int32))).toInt := fun e => hk14 (Int32.toInt_inj.mp e); have := c_and i2 (7 : Int32) (by decide); have := (by decide : ((7 : Int32)).toInt = 7); have := c_and i1 (7 : Int32) (by decide); omega)
            have hs32 : ¬ (z3 = z2) := by rw [hz3, hz2]; exact hc31
            obtain ⟨_, Tr16, Lr16, Xr16, hQr16, str16⟩ := ocallV Xr15 hx hZ zm10 zm10 hown (ww hw 86 rfl) (ww hw 87 rfl) (notFace_of_selects (args := #[]) (mvT hZ (ww hw 89 rfl))) (ww hw 89 rfl) (ww hw 88 rfl) (by decide) (ww hw 90 rfl) (ww hw 13 rfl) er15 f34 (rm11_34 l Z a0 hw [] br4 u3 b1 z3 k1 z1 z2 Tr8.heap n0 Z_5 f35 f38 f39 f33 hs12 hs14 hs30 hs32) (st := [(.ref u3), (.ref br4)]) rfl 0 rfl (by decide) (pc := 228) (Ls := (lc15 i0 i1 i2 i3 z1 z2 z3 0 1 0 u1 u2 u3 br4 1 0)) hml rfl (lenOf pd_6 rfl) at_228 hby
            obtain ⟨rfl, Nr16q, er16⟩ := hQr16
            have N15 := Fr.app N14 Nr16q
            refine own_go (U' := Tr16.setTop (mkF m 233 (lc15 i0 i1 i2 i3 z1 z2 z3 0 1 0 u1 u2 u3 br4 1 0) [(.int 0), (.int 0)])) (fun t k => oicN Xr15 hx hby at_221 (by decide) (oaload Xr15 hx hby at_224 rfl rfl (oaload Xr15 hx hby at_226 rfl rfl (str16 _ (oiload Xr16 hx hby at_231 rfl k))))) ?_
            refine own_go (U' := Tr16.setTop (mkF m 241 (lc15 i0 i1 i2 i3 z1 z2 z3 0 1 0 u1 u2 u3 br4 1 0) [(.int 1)])) (fun t k => oicN Xr16 hx hby at_233 (by decide) (oiconst Xr16 hx hby at_236 (ogoto (pc := 237) Xr16 hx hby at_237 241 (by decide) k))) ?_
            obtain ⟨fs, hr, hrun, hended, hW, hsame⟩ := Xr16.leave (v := some (.int 1)) (fun h => by rw [Bd.returns] at h; cases h)
            refine own_out ⟨_, _, ?_, hrun, hended, _, _, rfl, ?_, ⟨_, rfl⟩, hW, hsame.mono (by decide) (by decide)⟩
            · exact retN Xr16 hx (t := .boolean) Bd.returns (by simp) (hb hby at_241) hr
            · exact ⟨rfl, N15⟩
        · have hc33 : ¬ ((i0 &&& (7 : Int32)) = (i1 &&& (7 : Int32))) := hk13
          have hs34 : ¬ (z1 = z2) := by rw [hz2, hz1]; exact hc33
          obtain ⟨_, Tr7, Lr7, Xr7, hQr7, str7⟩ := ocallV Xr6 hx hZ zm7 zm7 hown (ww hw 69 rfl) (ww hw 70 rfl) (notFace_of_selects (args := #[]) (mvT hZ (ww hw 72 rfl))) (ww hw 72 rfl) (ww hw 71 rfl) (by decide) (ww hw 73 rfl) (ww hw 13 rfl) rfl f24 (rm8_35 l Z a0 hw [] br4 u1 b1 z1 k1 z2 Tr6.heap n0 Z_3 f25 f26 f27 f23 hs4 hs6 hs34 g2) (st := [(.int 1), (.ref u1), (.ref br4)]) rfl 0 rfl (by decide) (pc := 102) (Ls := (lc12 i0 i1 i2 i3 z1 z2 z3 0 1 0 u1 u2 u3 br4)) hml rfl (lenOf pd_4 rfl) at_102 hby
          obtain ⟨rfl, Nr7q, Kr7, f28⟩ := hQr7
          have N6 := Fr.app N5 Nr7q
          have f29 : Exa Z Tr7.heap br4 zs22 := (f24.keep Kr7)
          have f30 : Fld Z Tr7.heap br4 zs22 "counts" "[I" (.ref b1) := (f25.keep Kr7 (ninS ne3 nin0))
          have f31 : Exa Z Tr7.heap u1 zs0 := (f26.keep Kr7)
          have f32 : Fld Z Tr7.heap u1 zs26 "ordinal" "I" (.int z1) := (f27.keep Kr7 (ninS ne5 nin0))
          have Z_4 : n0 ≤ Tr7.heap.size := Nat.le_trans Z_3 Kr7.1
          obtain ⟨_, Tr8, Lr8, Xr8, hQr8, str8⟩ := ocallV Xr7 hx hZ zm7 zm7 hown (ww hw 69 rfl) (ww hw 70 rfl) (notFace_of_selects (args := #[]) (mvT hZ (ww hw 72 rfl))) (ww hw 72 rfl) (ww hw 71 rfl) (by decide) (ww hw 73 rfl) (ww hw 13 rfl) rfl f29 (rm8_31 l Z a0 hw [] br4 u1 b1 z1 k1 z2 Tr7.heap n0 Z_4 f30 f31 f32 f28 hs4 hs6 g2) (st := [(.int 0), (.ref u1), (.ref br4)]) rfl 0 rfl (by decide) (pc := 111) (Ls := (lc12 i0 i1 i2 i3 z1 z2 z3 0 1 0 u1 u2 u3 br4)) hml rfl (lenOf pd_4 rfl) at_111 hby
          obtain ⟨rfl, Nr8q, Kr8, f33⟩ := hQr8
          have N7 := Fr.app N6 Nr8q
          refine own_go (U' := Tr8.setTop (mkF m 118 (lc12 i0 i1 i2 i3 z1 z2 z3 0 1 0 u1 u2 u3 br4) [(.int z1), (.int z2)])) (fun t k => oastore Xr3 hx hby at_76 (lc9 i0 i1 i2 i3 z1 z2 z3 0 1 0 u1 u2 u3) rfl rfl (str4 _ (odup Xr4 hx hby at_81 rfl (str5 _ (oastore Xr5 hx hby at_85 (lc12 i0 i1 i2 i3 z1 z2 z3 0 1 0 u1 u2 u3 br4) rfl rfl (oaload Xr5 hx hby at_87 rfl rfl (oaload Xr5 hx hby at_89 rfl rfl (oiload Xr5 hx hby at_91 rfl (str6 _ (oaload Xr6 hx hby at_96 rfl rfl (oaload Xr6 hx hby at_98 rfl rfl (oiload Xr6 hx hby at_100 rfl (str7 _ (oaload Xr7 hx hby at_105 rfl rfl (oaload Xr7 hx hby at_107 rfl rfl (oiload Xr7 hx hby at_109 rfl (str8 _ (oiload Xr8 hx hby at_114 rfl (oiload Xr8 hx hby at_116 rfl k))))))))))))))))))) ?_
          have Z_5 : n0 ≤ Tr8.heap.size := Nat.le_trans Z_4 Kr8.1
          obtain ⟨_, Tr9, Lr9, Xr9, hQr9, str9⟩ := ocallS Xr8 hx hZ zm9 hown (ww hw 83 rfl) (ww hw 84 rfl) (by decide) (ww hw 85 rfl) (ww hw 2 rfl) rfl (rm10_18 l Z a0 hw []  Tr8.heap n0 Z_5 ) (st := [(.int 0)]) rfl 0 rfl (by decide) (pc := 131) (Ls := (lc12 i0 i1 i2 i3 z1 z2 z3 0 1 0 u1 u2 u3 br4)) hml rfl (lenOf pd_5 rfl) at_131 hby
          obtain ⟨rfl, Nr9q, er9⟩ := hQr9
          have N8 := Fr.app N7 Nr9q
          obtain ⟨_, Tr10, Lr10, Xr10, hQr10, str10⟩ := ocallS Xr9 hx hZ zm9 hown (ww hw 83 rfl) (ww hw 84 rfl) (by decide) (ww hw 85 rfl) (ww hw 2 rfl) er9 (rm10_25 l Z a0 hw []  Tr8.heap n0 Z_5 ) (st := [(.int 1), (.int 0)]) rfl 1 rfl (by decide) (pc := 136) (Ls := (lc12 i0 i1 i2 i3 z1 z2 z3 0 1 0 u1 u2 u3 br4)) hml rfl (lenOf pd_5 rfl) at_136 hby
          obtain ⟨rfl, Nr10q, er10⟩ := hQr10
          have N9 := Fr.app N8 Nr10q
          obtain ⟨_, Tr11, Lr11, Xr11, hQr11, str11⟩ := ocallS Xr10 hx hZ zm9 hown (ww hw 83 rfl) (ww hw 84 rfl) (by decide) (ww hw 85 rfl) (ww hw 2 rfl) er10 (rm10_18 l Z a0 hw []  Tr8.heap n0 Z_5 ) (st := [(.int 0), (.int 1)]) rfl 1 rfl (by decide) (pc := 142) (Ls := (lc12 i0 i1 i2 i3 z1 z2 z3 0 1 0 u1 u2 u3 br4)) hml rfl (lenOf pd_5 rfl) at_142 hby
          obtain ⟨rfl, Nr11q, er11⟩ := hQr11
          have N10 := Fr.app N9 Nr11q
          have hc35 : ¬ ((i1 &&& (7 : Int32)) = (i0 &&& (7 : Int32))) := (fun e => by have := congrArg Int32.toInt e; have : ¬ ((i0 &&& (7 : Int32))).toInt = ((i1 &&& (7 : Int32))).toInt := fun e => hk13 (Int32.toInt_inj.mp e); have := c_and i1 (7 : Int32) (by decide); have := (by decide : ((7 : Int32)).toInt = 7); have := c_and i0 (7 : Int32) (by decide); omega)
          have hs36 : ¬ (z2 = z1) := by rw [hz2, hz1]; exact hc35
          refine own_go (U' := Tr11.setTop (mkF m 152 (lc14 i0 i1 i2 i3 z1 z2 z3 0 1 0 u1 u2 u3 br4 1) [(.int z3), (.int z2)])) (fun t k => oicY (pc := 118) Xr8 hx hby at_118 130 (feq hs36).2 (by decide) (oiconst Xr8 hx hby at_130 (str9 _ (oiload Xr9 hx hby at_134 rfl (str10 _ (oiadd Xr10 hx hby at_139 (oiload Xr10 hx hby at_140 rfl (str11 _ (oiadd Xr11 hx hby at_145 (oistore Xr11 hx hby at_146 (lc14 i0 i1 i2 i3 z1 z2 z3 0 1 0 u1 u2 u3 br4 1) rfl (oiload Xr11 hx hby at_148 rfl (oiload Xr11 hx hby at_150 rfl k)))))))))))) ?_
          by_cases hk15 : (i1 &&& (7 : Int32)) = (i2 &&& (7 : Int32))
          · have hc19 : (i1 &&& (7 : Int32)) = (i2 &&& (7 : Int32)) := hk15
            have hs20 : z2 = z3 := by rw [hz3, hz2]; exact hc19
            refine own_go (U' := Tr11.setTop (mkF m 157 (lc14 i0 i1 i2 i3 z1 z2 z3 0 1 0 u1 u2 u3 br4 1) [(.int 0)])) (fun t k => oicN Xr11 hx hby at_152 (teq hs20).2 (oiload Xr11 hx hby at_155 rfl k)) ?_
            obtain ⟨_, Tr12, Lr12, Xr12, hQr12, str12⟩ := ocallS Xr11 hx hZ zm9 hown (ww hw 83 rfl) (ww hw 84 rfl) (by decide) (ww hw 85 rfl) (ww hw 2 rfl) er11 (rm10_18 l Z a0 hw []  Tr8.heap n0 Z_5 ) (st := [(.int 0)]) rfl 0 rfl (by decide) (pc := 165) (Ls := (lc14 i0 i1 i2 i3 z1 z2 z3 0 1 0 u1 u2 u3 br4 1)) hml rfl (lenOf pd_5 rfl) at_165 hby
            obtain ⟨rfl, Nr12q, er12⟩ := hQr12
            have N11 := Fr.app N10 Nr12q
            refine own_go (U' := Tr12.setTop (mkF m 172 (lc14 i0 i1 i2 i3 z1 z2 z3 0 1 0 u1 u2 u3 br4 1) [(.int z3), (.int z1), (.int 0)])) (fun t k => oifY (pc := 157) Xr11 hx hby at_157 164 (by decide) (by decide) (oiconst Xr11 hx hby at_164 (str12 _ (oiload Xr12 hx hby at_168 rfl (oiload Xr12 hx hby at_170 rfl k))))) ?_
            obtain ⟨_, Tr13, Lr13, Xr13, hQr13, str13⟩ := ocallS Xr12 hx hZ zm9 hown (ww hw 83 rfl) (ww hw 84 rfl) (by decide) (ww hw 85 rfl) (ww hw 2 rfl) er12 (rm10_18 l Z a0 hw []  Tr8.heap n0 Z_5 ) (st := [(.int 0), (.int 0)]) rfl 1 rfl (by decide) (pc := 185) (Ls := (lc14 i0 i1 i2 i3 z1 z2 z3 0 1 0 u1 u2 u3 br4 1)) hml rfl (lenOf pd_5 rfl) at_185 hby
            obtain ⟨rfl, Nr13q, er13⟩ := hQr13
            have N12 := Fr.app N11 Nr13q
            have hc27 : ¬ ((i0 &&& (7 : Int32)) = (i2 &&& (7 : Int32))) := (fun e => by have := congrArg Int32.toInt e; have : ¬ ((i0 &&& (7 : Int32))).toInt = ((i1 &&& (7 : Int32))).toInt := fun e => hk13 (Int32.toInt_inj.mp e); have := congrArg Int32.toInt hk15; have := c_and i0 (7 : Int32) (by decide); have := (by decide : ((7 : Int32)).toInt = 7); have := c_and i2 (7 : Int32) (by decide); have := c_and i1 (7 : Int32) (by decide); omega)
            have hs28 : ¬ (z1 = z3) := by rw [hz3, hz1]; exact hc27
            refine own_go (U' := Tr13.setTop (mkF m 193 (lc14 i0 i1 i2 i3 z1 z2 z3 0 1 0 u1 u2 u3 br4 1) [(.int z3), (.int z1), (.int 0)])) (fun t k => oicY (pc := 172) Xr12 hx hby at_172 184 (feq hs28).2 (by decide) (oiconst Xr12 hx hby at_184 (str13 _ (oiadd Xr13 hx hby at_188 (oiload Xr13 hx hby at_189 rfl (oiload Xr13 hx hby at_191 rfl k)))))) ?_
            obtain ⟨_, Tr14, Lr14, Xr14, hQr14, str14⟩ := ocallS Xr13 hx hZ zm9 hown (ww hw 83 rfl) (ww hw 84 rfl) (by decide) (ww hw 85 rfl) (ww hw 2 rfl) er13 (rm10_18 l Z a0 hw []  Tr8.heap n0 Z_5 ) (st := [(.int 0), (.int 0)]) rfl 1 rfl (by decide) (pc := 206) (Ls := (lc14 i0 i1 i2 i3 z1 z2 z3 0 1 0 u1 u2 u3 br4 1)) hml rfl (lenOf pd_5 rfl) at_206 hby
            obtain ⟨rfl, Nr14q, er14⟩ := hQr14
            have N13 := Fr.app N12 Nr14q
            have f34 : Exa Z Tr8.heap br4 zs22 := (f29.keep Kr8)
            have f35 : Fld Z Tr8.heap br4 zs22 "counts" "[I" (.ref b1) := (f30.keep Kr8 (ninS ne3 nin0))
            have f36 : Exa Z Tr8.heap u1 zs0 := (f31.keep Kr8)
            have f37 : Fld Z Tr8.heap u1 zs26 "ordinal" "I" (.int z1) := (f32.keep Kr8 (ninS ne5 nin0))
            obtain ⟨_, Tr15, Lr15, Xr15, hQr15, str15⟩ := ocallV Xr14 hx hZ zm10 zm10 hown (ww hw 86 rfl) (ww hw 87 rfl) (notFace_of_selects (args := #[]) (mvT hZ (ww hw 89 rfl))) (ww hw 89 rfl) (ww hw 88 rfl) (by decide) (ww hw 90 rfl) (ww hw 13 rfl) er14 f34 (rm11_32 l Z a0 hw [] br4 u1 b1 z1 k1 z2 Tr8.heap n0 Z_5 f35 f36 f37 f33 hs4 hs6) (st := [(.ref u1), (.ref br4)]) rfl 0 rfl (by decide) (pc := 216) (Ls := (lc15 i0 i1 i2 i3 z1 z2 z3 0 1 0 u1 u2 u3 br4 1 0)) hml rfl (lenOf pd_6 rfl) at_216 hby
            obtain ⟨rfl, Nr15q, er15⟩ := hQr15
            have N14 := Fr.app N13 Nr15q
            refine own_go (U' := Tr15.setTop (mkF m 221 (lc15 i0 i1 i2 i3 z1 z2 z3 0 1 0 u1 u2 u3 br4 1 0) [(.int 1), (.int 1)])) (fun t k => oicY (pc := 193) Xr13 hx hby at_193 205 (feq hs28).2 (by decide) (oiconst Xr13 hx hby at_205 (str14 _ (oiadd Xr14 hx hby at_209 (oistore Xr14 hx hby at_210 (lc15 i0 i1 i2 i3 z1 z2 z3 0 1 0 u1 u2 u3 br4 1 0) rfl (oaload Xr14 hx hby at_212 rfl rfl (oaload Xr14 hx hby at_214 rfl rfl (str15 _ (oiload Xr15 hx hby at_219 rfl k))))))))) ?_
            have f38 : Exa Z Tr8.heap u3 zs0 := (((((Exa.ext Er4 f5).keep Kr5).keep Kr6).keep Kr7).keep Kr8)
            have ne6 : u3 ≠ br4 := Nat.ne_of_lt (Nat.lt_of_lt_of_le (f6.lt) (Nat.le_of_eq gr4.symm))
            have ne7 : u3 ≠ b1 := Nat.ne_of_lt (Nat.lt_of_lt_of_le (Nat.lt_of_lt_of_le (f6.lt) Er4.1) sz1)
            have f39 : Fld Z Tr8.heap u3 zs26 "ordinal" "I" (.int z3) := (((((Fld.ext Er4 f6).keep Kr5 (ninS ne6 nin0)).keep Kr6 (ninS ne7 nin0)).keep Kr7 (ninS ne7 nin0)).keep Kr8 (ninS ne7 nin0))
            have hc29 : ¬ ((i2 &&& (7 : Int32)) = (i0 &&& (7 : Int32))) := (fun e => by have := congrArg Int32.toInt e; have : ¬ ((i0 &&& (7 : Int32))).toInt = ((i1 &&& (7 : Int32))).toInt := fun e => hk13 (Int32.toInt_inj.mp e); have := congrArg Int32.toInt hk15; have := c_and i2 (7 : Int32) (by decide); have := (by decide : ((7 : Int32)).toInt = 7); have := c_and i0 (7 : Int32) (by decide); have := c_and i1 (7 : Int32) (by decide); omega)
            have hs30 : ¬ (z3 = z1) := by rw [hz3, hz1]; exact hc29
            have hc37 : (i2 &&& (7 : Int32)) = (i1 &&& (7 : Int32)) := (Int32.toInt_inj.mp (by have := congrArg Int32.toInt hk15; have := c_and i2 (7 : Int32) (by decide); have := (by decide : ((7 : Int32)).toInt = 7); have := c_and i1 (7 : Int32) (by decide); omega))
            have hs38 : z3 = z2 := by rw [hz3, hz2]; exact hc37
            obtain ⟨_, Tr16, Lr16, Xr16, hQr16, str16⟩ := ocallV Xr15 hx hZ zm10 zm10 hown (ww hw 86 rfl) (ww hw 87 rfl) (notFace_of_selects (args := #[]) (mvT hZ (ww hw 89 rfl))) (ww hw 89 rfl) (ww hw 88 rfl) (by decide) (ww hw 90 rfl) (ww hw 13 rfl) er15 f34 (rm11_36 l Z a0 hw [] br4 u3 b1 z3 k1 z1 z2 Tr8.heap n0 Z_5 f35 f38 f39 f33 hs12 hs14 hs30 hs38) (st := [(.ref u3), (.ref br4)]) rfl 0 rfl (by decide) (pc := 228) (Ls := (lc15 i0 i1 i2 i3 z1 z2 z3 0 1 0 u1 u2 u3 br4 1 0)) hml rfl (lenOf pd_6 rfl) at_228 hby
            obtain ⟨rfl, Nr16q, er16⟩ := hQr16
            have N15 := Fr.app N14 Nr16q
            refine own_go (U' := Tr16.setTop (mkF m 233 (lc15 i0 i1 i2 i3 z1 z2 z3 0 1 0 u1 u2 u3 br4 1 0) [(.int 0), (.int 0)])) (fun t k => oicN Xr15 hx hby at_221 (by decide) (oaload Xr15 hx hby at_224 rfl rfl (oaload Xr15 hx hby at_226 rfl rfl (str16 _ (oiload Xr16 hx hby at_231 rfl k))))) ?_
            refine own_go (U' := Tr16.setTop (mkF m 241 (lc15 i0 i1 i2 i3 z1 z2 z3 0 1 0 u1 u2 u3 br4 1 0) [(.int 1)])) (fun t k => oicN Xr16 hx hby at_233 (by decide) (oiconst Xr16 hx hby at_236 (ogoto (pc := 237) Xr16 hx hby at_237 241 (by decide) k))) ?_
            obtain ⟨fs, hr, hrun, hended, hW, hsame⟩ := Xr16.leave (v := some (.int 1)) (fun h => by rw [Bd.returns] at h; cases h)
            refine own_out ⟨_, _, ?_, hrun, hended, _, _, rfl, ?_, ⟨_, rfl⟩, hW, hsame.mono (by decide) (by decide)⟩
            · exact retN Xr16 hx (t := .boolean) Bd.returns (by simp) (hb hby at_241) hr
            · exact ⟨rfl, N15⟩
          · obtain ⟨_, Tr12, Lr12, Xr12, hQr12, str12⟩ := ocallS Xr11 hx hZ zm9 hown (ww hw 83 rfl) (ww hw 84 rfl) (by decide) (ww hw 85 rfl) (ww hw 2 rfl) er11 (rm10_18 l Z a0 hw []  Tr8.heap n0 Z_5 ) (st := [(.int 0)]) rfl 0 rfl (by decide) (pc := 165) (Ls := (lc14 i0 i1 i2 i3 z1 z2 z3 0 1 0 u1 u2 u3 br4 1)) hml rfl (lenOf pd_5 rfl) at_165 hby
            obtain ⟨rfl, Nr12q, er12⟩ := hQr12
            have N11 := Fr.app N10 Nr12q
            have hc25 : ¬ ((i1 &&& (7 : Int32)) = (i2 &&& (7 : Int32))) := hk15
            have hs26 : ¬ (z2 = z3) := by rw [hz3, hz2]; exact hc25
            refine own_go (U' := Tr12.setTop (mkF m 172 (lc14 i0 i1 i2 i3 z1 z2 z3 0 1 0 u1 u2 u3 br4 1) [(.int z3), (.int z1), (.int 0)])) (fun t k => oicY (pc := 152) Xr11 hx hby at_152 164 (feq hs26).2 (by decide) (oiconst Xr11 hx hby at_164 (str12 _ (oiload Xr12 hx hby at_168 rfl (oiload Xr12 hx hby at_170 rfl k))))) ?_
            by_cases hk16 : (i0 &&& (7 : Int32)) = (i2 &&& (7 : Int32))
            · have hc21 : (i0 &&& (7 : Int32)) = (i2 &&& (7 : Int32)) := hk16
              have hs22 : z1 = z3 := by rw [hz3, hz1]; exact hc21
              refine own_go (U' := Tr12.setTop (mkF m 177 (lc14 i0 i1 i2 i3 z1 z2 z3 0 1 0 u1 u2 u3 br4 1) [(.int 1), (.int 0)])) (fun t k => oicN Xr12 hx hby at_172 (teq hs22).2 (oiload Xr12 hx hby at_175 rfl k)) ?_
              obtain ⟨_, Tr13, Lr13, Xr13, hQr13, str13⟩ := ocallS Xr12 hx hZ zm9 hown (ww hw 83 rfl) (ww hw 84 rfl) (by decide) (ww hw 85 rfl) (ww hw 2 rfl) er12 (rm10_25 l Z a0 hw []  Tr8.heap n0 Z_5 ) (st := [(.int 1), (.int 0)]) rfl 1 rfl (by decide) (pc := 185) (Ls := (lc14 i0 i1 i2 i3 z1 z2 z3 0 1 0 u1 u2 u3 br4 1)) hml rfl (lenOf pd_5 rfl) at_185 hby
              obtain ⟨rfl, Nr13q, er13⟩ := hQr13
              have N12 := Fr.app N11 Nr13q
              refine own_go (U' := Tr13.setTop (mkF m 193 (lc14 i0 i1 i2 i3 z1 z2 z3 0 1 0 u1 u2 u3 br4 1) [(.int z3), (.int z1), (.int 1)])) (fun t k => oifN Xr12 hx hby at_177 (by decide) (oiconst Xr12 hx hby at_180 (ogoto (pc := 181) Xr12 hx hby at_181 185 (by decide) (str13 _ (oiadd Xr13 hx hby at_188 (oiload Xr13 hx hby at_189 rfl (oiload Xr13 hx hby at_191 rfl k))))))) ?_
              refine own_go (U' := Tr13.setTop (mkF m 198 (lc14 i0 i1 i2 i3 z1 z2 z3 0 1 0 u1 u2 u3 br4 1) [(.int 0), (.int 1)])) (fun t k => oicN Xr13 hx hby at_193 (teq hs22).2 (oiload Xr13 hx hby at_196 rfl k)) ?_
              obtain ⟨_, Tr14, Lr14, Xr14, hQr14, str14⟩ := ocallS Xr13 hx hZ zm9 hown (ww hw 83 rfl) (ww hw 84 rfl) (by decide) (ww hw 85 rfl) (ww hw 2 rfl) er13 (rm10_18 l Z a0 hw []  Tr8.heap n0 Z_5 ) (st := [(.int 0), (.int 1)]) rfl 1 rfl (by decide) (pc := 206) (Ls := (lc14 i0 i1 i2 i3 z1 z2 z3 0 1 0 u1 u2 u3 br4 1)) hml rfl (lenOf pd_5 rfl) at_206 hby
              obtain ⟨rfl, Nr14q, er14⟩ := hQr14
              have N13 := Fr.app N12 Nr14q
              have f34 : Exa Z Tr8.heap br4 zs22 := (f29.keep Kr8)
              have f35 : Fld Z Tr8.heap br4 zs22 "counts" "[I" (.ref b1) := (f30.keep Kr8 (ninS ne3 nin0))
              have f36 : Exa Z Tr8.heap u1 zs0 := (f31.keep Kr8)
              have f37 : Fld Z Tr8.heap u1 zs26 "ordinal" "I" (.int z1) := (f32.keep Kr8 (ninS ne5 nin0))
              obtain ⟨_, Tr15, Lr15, Xr15, hQr15, str15⟩ := ocallV Xr14 hx hZ zm10 zm10 hown (ww hw 86 rfl) (ww hw 87 rfl) (notFace_of_selects (args := #[]) (mvT hZ (ww hw 89 rfl))) (ww hw 89 rfl) (ww hw 88 rfl) (by decide) (ww hw 90 rfl) (ww hw 13 rfl) er14 f34 (rm11_32 l Z a0 hw [] br4 u1 b1 z1 k1 z2 Tr8.heap n0 Z_5 f35 f36 f37 f33 hs4 hs6) (st := [(.ref u1), (.ref br4)]) rfl 0 rfl (by decide) (pc := 216) (Ls := (lc15 i0 i1 i2 i3 z1 z2 z3 0 1 0 u1 u2 u3 br4 1 1)) hml rfl (lenOf pd_6 rfl) at_216 hby
              obtain ⟨rfl, Nr15q, er15⟩ := hQr15
              have N14 := Fr.app N13 Nr15q
              refine own_go (U' := Tr15.setTop (mkF m 221 (lc15 i0 i1 i2 i3 z1 z2 z3 0 1 0 u1 u2 u3 br4 1 1) [(.int 1), (.int 1)])) (fun t k => oifY (pc := 198) Xr13 hx hby at_198 205 (by decide) (by decide) (oiconst Xr13 hx hby at_205 (str14 _ (oiadd Xr14 hx hby at_209 (oistore Xr14 hx hby at_210 (lc15 i0 i1 i2 i3 z1 z2 z3 0 1 0 u1 u2 u3 br4 1 1) rfl (oaload Xr14 hx hby at_212 rfl rfl (oaload Xr14 hx hby at_214 rfl rfl (str15 _ (oiload Xr15 hx hby at_219 rfl k))))))))) ?_
              have f38 : Exa Z Tr8.heap u3 zs0 := (((((Exa.ext Er4 f5).keep Kr5).keep Kr6).keep Kr7).keep Kr8)
              have ne6 : u3 ≠ br4 := Nat.ne_of_lt (Nat.lt_of_lt_of_le (f6.lt) (Nat.le_of_eq gr4.symm))
              have ne7 : u3 ≠ b1 := Nat.ne_of_lt (Nat.lt_of_lt_of_le (Nat.lt_of_lt_of_le (f6.lt) Er4.1) sz1)
              have f39 : Fld Z Tr8.heap u3 zs26 "ordinal" "I" (.int z3) := (((((Fld.ext Er4 f6).keep Kr5 (ninS ne6 nin0)).keep Kr6 (ninS ne7 nin0)).keep Kr7 (ninS ne7 nin0)).keep Kr8 (ninS ne7 nin0))
              have hc23 : (i2 &&& (7 : Int32)) = (i0 &&& (7 : Int32)) := (Int32.toInt_inj.mp (by have := congrArg Int32.toInt hk16; have := c_and i2 (7 : Int32) (by decide); have := (by decide : ((7 : Int32)).toInt = 7); have := c_and i0 (7 : Int32) (by decide); omega))
              have hs24 : z3 = z1 := by rw [hz3, hz1]; exact hc23
              obtain ⟨_, Tr16, Lr16, Xr16, hQr16, str16⟩ := ocallV Xr15 hx hZ zm10 zm10 hown (ww hw 86 rfl) (ww hw 87 rfl) (notFace_of_selects (args := #[]) (mvT hZ (ww hw 89 rfl))) (ww hw 89 rfl) (ww hw 88 rfl) (by decide) (ww hw 90 rfl) (ww hw 13 rfl) er15 f34 (rm11_33 l Z a0 hw [] br4 u3 b1 z3 k1 z1 z2 Tr8.heap n0 Z_5 f35 f38 f39 f33 hs12 hs14 hs24) (st := [(.ref u3), (.ref br4)]) rfl 0 rfl (by decide) (pc := 228) (Ls := (lc15 i0 i1 i2 i3 z1 z2 z3 0 1 0 u1 u2 u3 br4 1 1)) hml rfl (lenOf pd_6 rfl) at_228 hby
              obtain ⟨rfl, Nr16q, er16⟩ := hQr16
              have N15 := Fr.app N14 Nr16q
              refine own_go (U' := Tr16.setTop (mkF m 233 (lc15 i0 i1 i2 i3 z1 z2 z3 0 1 0 u1 u2 u3 br4 1 1) [(.int 1), (.int 1)])) (fun t k => oicN Xr15 hx hby at_221 (by decide) (oaload Xr15 hx hby at_224 rfl rfl (oaload Xr15 hx hby at_226 rfl rfl (str16 _ (oiload Xr16 hx hby at_231 rfl k))))) ?_
              refine own_go (U' := Tr16.setTop (mkF m 241 (lc15 i0 i1 i2 i3 z1 z2 z3 0 1 0 u1 u2 u3 br4 1 1) [(.int 1)])) (fun t k => oicN Xr16 hx hby at_233 (by decide) (oiconst Xr16 hx hby at_236 (ogoto (pc := 237) Xr16 hx hby at_237 241 (by decide) k))) ?_
              obtain ⟨fs, hr, hrun, hended, hW, hsame⟩ := Xr16.leave (v := some (.int 1)) (fun h => by rw [Bd.returns] at h; cases h)
              refine own_out ⟨_, _, ?_, hrun, hended, _, _, rfl, ?_, ⟨_, rfl⟩, hW, hsame.mono (by decide) (by decide)⟩
              · exact retN Xr16 hx (t := .boolean) Bd.returns (by simp) (hb hby at_241) hr
              · exact ⟨rfl, N15⟩
            · obtain ⟨_, Tr13, Lr13, Xr13, hQr13, str13⟩ := ocallS Xr12 hx hZ zm9 hown (ww hw 83 rfl) (ww hw 84 rfl) (by decide) (ww hw 85 rfl) (ww hw 2 rfl) er12 (rm10_18 l Z a0 hw []  Tr8.heap n0 Z_5 ) (st := [(.int 0), (.int 0)]) rfl 1 rfl (by decide) (pc := 185) (Ls := (lc14 i0 i1 i2 i3 z1 z2 z3 0 1 0 u1 u2 u3 br4 1)) hml rfl (lenOf pd_5 rfl) at_185 hby
              obtain ⟨rfl, Nr13q, er13⟩ := hQr13
              have N12 := Fr.app N11 Nr13q
              have hc27 : ¬ ((i0 &&& (7 : Int32)) = (i2 &&& (7 : Int32))) := hk16
              have hs28 : ¬ (z1 = z3) := by rw [hz3, hz1]; exact hc27
              refine own_go (U' := Tr13.setTop (mkF m 193 (lc14 i0 i1 i2 i3 z1 z2 z3 0 1 0 u1 u2 u3 br4 1) [(.int z3), (.int z1), (.int 0)])) (fun t k => oicY (pc := 172) Xr12 hx hby at_172 184 (feq hs28).2 (by decide) (oiconst Xr12 hx hby at_184 (str13 _ (oiadd Xr13 hx hby at_188 (oiload Xr13 hx hby at_189 rfl (oiload Xr13 hx hby at_191 rfl k)))))) ?_
              obtain ⟨_, Tr14, Lr14, Xr14, hQr14, str14⟩ := ocallS Xr13 hx hZ zm9 hown (ww hw 83 rfl) (ww hw 84 rfl) (by decide) (ww hw 85 rfl) (ww hw 2 rfl) er13 (rm10_18 l Z a0 hw []  Tr8.heap n0 Z_5 ) (st := [(.int 0), (.int 0)]) rfl 1 rfl (by decide) (pc := 206) (Ls := (lc14 i0 i1 i2 i3 z1 z2 z3 0 1 0 u1 u2 u3 br4 1)) hml rfl (lenOf pd_5 rfl) at_206 hby
              obtain ⟨rfl, Nr14q, er14⟩ := hQr14
              have N13 := Fr.app N12 Nr14q
              have f34 : Exa Z Tr8.heap br4 zs22 := (f29.keep Kr8)
              have f35 : Fld Z Tr8.heap br4 zs22 "counts" "[I" (.ref b1) := (f30.keep Kr8 (ninS ne3 nin0))
              have f36 : Exa Z Tr8.heap u1 zs0 := (f31.keep Kr8)
              have f37 : Fld Z Tr8.heap u1 zs26 "ordinal" "I" (.int z1) := (f32.keep Kr8 (ninS ne5 nin0))
              obtain ⟨_, Tr15, Lr15, Xr15, hQr15, str15⟩ := ocallV Xr14 hx hZ zm10 zm10 hown (ww hw 86 rfl) (ww hw 87 rfl) (notFace_of_selects (args := #[]) (mvT hZ (ww hw 89 rfl))) (ww hw 89 rfl) (ww hw 88 rfl) (by decide) (ww hw 90 rfl) (ww hw 13 rfl) er14 f34 (rm11_32 l Z a0 hw [] br4 u1 b1 z1 k1 z2 Tr8.heap n0 Z_5 f35 f36 f37 f33 hs4 hs6) (st := [(.ref u1), (.ref br4)]) rfl 0 rfl (by decide) (pc := 216) (Ls := (lc15 i0 i1 i2 i3 z1 z2 z3 0 1 0 u1 u2 u3 br4 1 0)) hml rfl (lenOf pd_6 rfl) at_216 hby
              obtain ⟨rfl, Nr15q, er15⟩ := hQr15
              have N14 := Fr.app N13 Nr15q
              refine own_go (U' := Tr15.setTop (mkF m 221 (lc15 i0 i1 i2 i3 z1 z2 z3 0 1 0 u1 u2 u3 br4 1 0) [(.int 1), (.int 1)])) (fun t k => oicY (pc := 193) Xr13 hx hby at_193 205 (feq hs28).2 (by decide) (oiconst Xr13 hx hby at_205 (str14 _ (oiadd Xr14 hx hby at_209 (oistore Xr14 hx hby at_210 (lc15 i0 i1 i2 i3 z1 z2 z3 0 1 0 u1 u2 u3 br4 1 0) rfl (oaload Xr14 hx hby at_212 rfl rfl (oaload Xr14 hx hby at_214 rfl rfl (str15 _ (oiload Xr15 hx hby at_219 rfl k))))))))) ?_
              have f38 : Exa Z Tr8.heap u3 zs0 := (((((Exa.ext Er4 f5).keep Kr5).keep Kr6).keep Kr7).keep Kr8)
              have ne6 : u3 ≠ br4 := Nat.ne_of_lt (Nat.lt_of_lt_of_le (f6.lt) (Nat.le_of_eq gr4.symm))
              have ne7 : u3 ≠ b1 := Nat.ne_of_lt (Nat.lt_of_lt_of_le (Nat.lt_of_lt_of_le (f6.lt) Er4.1) sz1)
              have f39 : Fld Z Tr8.heap u3 zs26 "ordinal" "I" (.int z3) := (((((Fld.ext Er4 f6).keep Kr5 (ninS ne6 nin0)).keep Kr6 (ninS ne7 nin0)).keep Kr7 (ninS ne7 nin0)).keep Kr8 (ninS ne7 nin0))
              have hc29 : ¬ ((i2 &&& (7 : Int32)) = (i0 &&& (7 : Int32))) := (fun e => by have := congrArg Int32.toInt e; have : ¬ ((i0 &&& (7 : Int32))).toInt = ((i2 &&& (7 : Int32))).toInt := fun e => hk16 (Int32.toInt_inj.mp e); have := c_and i2 (7 : Int32) (by decide); have := (by decide : ((7 : Int32)).toInt = 7); have := c_and i0 (7 : Int32) (by decide); omega)
              have hs30 : ¬ (z3 = z1) := by rw [hz3, hz1]; exact hc29
              have hc31 : ¬ ((i2 &&& (7 : Int32)) = (i1 &&& (7 : Int32))) := (fun e => by have := congrArg Int32.toInt e; have : ¬ ((i1 &&& (7 : Int32))).toInt = ((i2 &&& (7 : Int32))).toInt := fun e => hk15 (Int32.toInt_inj.mp e); have := c_and i2 (7 : Int32) (by decide); have := (by decide : ((7 : Int32)).toInt = 7); have := c_and i1 (7 : Int32) (by decide); omega)
              have hs32 : ¬ (z3 = z2) := by rw [hz3, hz2]; exact hc31
              obtain ⟨_, Tr16, Lr16, Xr16, hQr16, str16⟩ := ocallV Xr15 hx hZ zm10 zm10 hown (ww hw 86 rfl) (ww hw 87 rfl) (notFace_of_selects (args := #[]) (mvT hZ (ww hw 89 rfl))) (ww hw 89 rfl) (ww hw 88 rfl) (by decide) (ww hw 90 rfl) (ww hw 13 rfl) er15 f34 (rm11_34 l Z a0 hw [] br4 u3 b1 z3 k1 z1 z2 Tr8.heap n0 Z_5 f35 f38 f39 f33 hs12 hs14 hs30 hs32) (st := [(.ref u3), (.ref br4)]) rfl 0 rfl (by decide) (pc := 228) (Ls := (lc15 i0 i1 i2 i3 z1 z2 z3 0 1 0 u1 u2 u3 br4 1 0)) hml rfl (lenOf pd_6 rfl) at_228 hby
              obtain ⟨rfl, Nr16q, er16⟩ := hQr16
              have N15 := Fr.app N14 Nr16q
              refine own_go (U' := Tr16.setTop (mkF m 233 (lc15 i0 i1 i2 i3 z1 z2 z3 0 1 0 u1 u2 u3 br4 1 0) [(.int 0), (.int 0)])) (fun t k => oicN Xr15 hx hby at_221 (by decide) (oaload Xr15 hx hby at_224 rfl rfl (oaload Xr15 hx hby at_226 rfl rfl (str16 _ (oiload Xr16 hx hby at_231 rfl k))))) ?_
              refine own_go (U' := Tr16.setTop (mkF m 241 (lc15 i0 i1 i2 i3 z1 z2 z3 0 1 0 u1 u2 u3 br4 1 0) [(.int 1)])) (fun t k => oicN Xr16 hx hby at_233 (by decide) (oiconst Xr16 hx hby at_236 (ogoto (pc := 237) Xr16 hx hby at_237 241 (by decide) k))) ?_
              obtain ⟨fs, hr, hrun, hended, hW, hsame⟩ := Xr16.leave (v := some (.int 1)) (fun h => by rw [Bd.returns] at h; cases h)
              refine own_out ⟨_, _, ?_, hrun, hended, _, _, rfl, ?_, ⟨_, rfl⟩, hW, hsame.mono (by decide) (by decide)⟩
              · exact retN Xr16 hx (t := .boolean) Bd.returns (by simp) (hb hby at_241) hr
              · exact ⟨rfl, N15⟩
      · obtain ⟨_, Tr1, Lr1, Xr1, hQr1, str1⟩ := ocallS X0 hx hZ zm0 hown (ww hw 0 rfl) (ww hw 1 rfl) (by decide) (ww hw 3 rfl) (ww hw 2 rfl) e0 (mg1_8 l Z a0 hw [] z1 w0 w4 w2 w1 w5 w6 w7 w8 h0 n0 Z0 S0 S8 S4 S2 S10 S12 S14 S16) (st := [(.int z1)]) rfl 0 rfl (by decide) (pc := 59) (Ls := (lc5 i0 i1 i2 i3 z1 z2 z3 0 1 1)) hml rfl (lenOf pd_0 rfl) at_59 hby
        obtain ⟨rfl, Nr1q, er1⟩ := hQr1
        have hc39 : ¬ ((i3 &&& (4 : Int32)) = (0 : Int32)) := hk12
        refine own_go (U' := Tr1.setTop (mkF m 62 (lc5 i0 i1 i2 i3 z1 z2 z3 0 1 1) [(.ref (own_pick z1 w0 w4 w2 w1 w5 w6 w7 w8))])) (fun t k => oifN X0 hx hby at_47 ((if0 _ _).trans (feq hc39).1) (oiconst X0 hx hby at_50 (ogoto (pc := 51) X0 hx hby at_51 55 (by decide) (oistore X0 hx hby at_55 (lc5 i0 i1 i2 i3 z1 z2 z3 0 1 1) rfl (oiload X0 hx hby at_57 rfl (str1 _ k)))))) ?_
        obtain ⟨u1, hu1⟩ : ∃ z, z = (own_pick z1 w0 w4 w2 w1 w5 w6 w7 w8) := ⟨_, rfl⟩
        rw [← hu1]
        have f1 : Exa Z h0 u1 zs0 := by rw [hu1]; exact own_pick_E S1 S9 S5 S3 S11 S13 S15 S17
        have hc3 : ¬ ((i0 &&& (7 : Int32)) < (0 : Int32)) := (fun e => by have := Int32.lt_iff_toInt_lt.mp e; have := c_and i0 (7 : Int32) (by decide); have := (by decide : ((7 : Int32)).toInt = 7); have := (by decide : ((0 : Int32)).toInt = 0); omega)
        have hs4 : ¬ (z1 < (0 : Int32)) := by rw [hz1]; exact hc3
        have hc5 : (i0 &&& (7 : Int32)) < (8 : Int32) := (Int32.lt_iff_toInt_lt.mpr (by have := c_and i0 (7 : Int32) (by decide); have := (by decide : ((7 : Int32)).toInt = 7); have := (by decide : ((8 : Int32)).toInt = 8); omega))
        have hs6 : z1 < (8 : Int32) := by rw [hz1]; exact hc5
        have f2 : Fld Z h0 u1 zs26 "ordinal" "I" (.int z1) := by rw [hu1]; exact own_pick_O S19 S24 S20 S18 S21 S25 S23 S22 hs4 hs6
        have N1 := Fr.app N0 Nr1q
        obtain ⟨_, Tr2, Lr2, Xr2, hQr2, str2⟩ := ocallS Xr1 hx hZ zm0 hown (ww hw 0 rfl) (ww hw 1 rfl) (by decide) (ww hw 3 rfl) (ww hw 2 rfl) er1 (mg1_8 l Z a0 hw [] z2 w0 w4 w2 w1 w5 w6 w7 w8 h0 n0 Z0 S0 S8 S4 S2 S10 S12 S14 S16) (st := [(.int z2)]) rfl 0 rfl (by decide) (pc := 66) (Ls := (lc7 i0 i1 i2 i3 z1 z2 z3 0 1 1 u1)) hml rfl (lenOf pd_0 rfl) at_66 hby
        obtain ⟨rfl, Nr2q, er2⟩ := hQr2
        refine own_go (U' := Tr2.setTop (mkF m 69 (lc7 i0 i1 i2 i3 z1 z2 z3 0 1 1 u1) [(.ref (own_pick z2 w0 w4 w2 w1 w5 w6 w7 w8))])) (fun t k => oastore Xr1 hx hby at_62 (lc7 i0 i1 i2 i3 z1 z2 z3 0 1 1 u1) rfl rfl (oiload Xr1 hx hby at_64 rfl (str2 _ k))) ?_
        obtain ⟨u2, hu2⟩ : ∃ z, z = (own_pick z2 w0 w4 w2 w1 w5 w6 w7 w8) := ⟨_, rfl⟩
        rw [← hu2]
        have f3 : Exa Z h0 u2 zs0 := by rw [hu2]; exact own_pick_E S1 S9 S5 S3 S11 S13 S15 S17
        have hc7 : ¬ ((i1 &&& (7 : Int32)) < (0 : Int32)) := (fun e => by have := Int32.lt_iff_toInt_lt.mp e; have := c_and i1 (7 : Int32) (by decide); have := (by decide : ((7 : Int32)).toInt = 7); have := (by decide : ((0 : Int32)).toInt = 0); omega)
        have hs8 : ¬ (z2 < (0 : Int32)) := by rw [hz2]; exact hc7
        have hc9 : (i1 &&& (7 : Int32)) < (8 : Int32) := (Int32.lt_iff_toInt_lt.mpr (by have := c_and i1 (7 : Int32) (by decide); have := (by decide : ((7 : Int32)).toInt = 7); have := (by decide : ((8 : Int32)).toInt = 8); omega))
        have hs10 : z2 < (8 : Int32) := by rw [hz2]; exact hc9
        have f4 : Fld Z h0 u2 zs26 "ordinal" "I" (.int z2) := by rw [hu2]; exact own_pick_O S19 S24 S20 S18 S21 S25 S23 S22 hs8 hs10
        have N2 := Fr.app N1 Nr2q
        obtain ⟨_, Tr3, Lr3, Xr3, hQr3, str3⟩ := ocallS Xr2 hx hZ zm0 hown (ww hw 0 rfl) (ww hw 1 rfl) (by decide) (ww hw 3 rfl) (ww hw 2 rfl) er2 (mg1_8 l Z a0 hw [] z3 w0 w4 w2 w1 w5 w6 w7 w8 h0 n0 Z0 S0 S8 S4 S2 S10 S12 S14 S16) (st := [(.int z3)]) rfl 0 rfl (by decide) (pc := 73) (Ls := (lc8 i0 i1 i2 i3 z1 z2 z3 0 1 1 u1 u2)) hml rfl (lenOf pd_0 rfl) at_73 hby
        obtain ⟨rfl, Nr3q, er3⟩ := hQr3
        refine own_go (U' := Tr3.setTop (mkF m 76 (lc8 i0 i1 i2 i3 z1 z2 z3 0 1 1 u1 u2) [(.ref (own_pick z3 w0 w4 w2 w1 w5 w6 w7 w8))])) (fun t k => oastore Xr2 hx hby at_69 (lc8 i0 i1 i2 i3 z1 z2 z3 0 1 1 u1 u2) rfl rfl (oiload Xr2 hx hby at_71 rfl (str3 _ k))) ?_
        obtain ⟨u3, hu3⟩ : ∃ z, z = (own_pick z3 w0 w4 w2 w1 w5 w6 w7 w8) := ⟨_, rfl⟩
        rw [← hu3]
        have f5 : Exa Z h0 u3 zs0 := by rw [hu3]; exact own_pick_E S1 S9 S5 S3 S11 S13 S15 S17
        have hc11 : ¬ ((i2 &&& (7 : Int32)) < (0 : Int32)) := (fun e => by have := Int32.lt_iff_toInt_lt.mp e; have := c_and i2 (7 : Int32) (by decide); have := (by decide : ((7 : Int32)).toInt = 7); have := (by decide : ((0 : Int32)).toInt = 0); omega)
        have hs12 : ¬ (z3 < (0 : Int32)) := by rw [hz3]; exact hc11
        have hc13 : (i2 &&& (7 : Int32)) < (8 : Int32) := (Int32.lt_iff_toInt_lt.mpr (by have := c_and i2 (7 : Int32) (by decide); have := (by decide : ((7 : Int32)).toInt = 7); have := (by decide : ((8 : Int32)).toInt = 8); omega))
        have hs14 : z3 < (8 : Int32) := by rw [hz3]; exact hc13
        have f6 : Fld Z h0 u3 zs26 "ordinal" "I" (.int z3) := by rw [hu3]; exact own_pick_O S19 S24 S20 S18 S21 S25 S23 S22 hs12 hs14
        have N3 := Fr.app N2 Nr3q
        obtain ⟨Tr4, hr4, Xr4, er4, Er4, Ar4, Dr4, -, str4⟩ := newO Xr3 hx hZ hown (ww hw 11 rfl) (ww hw 12 rfl) (ww hw 13 rfl) er3 (g := (mkF m 78 (lc9 i0 i1 i2 i3 z1 z2 z3 0 1 1 u1 u2 u3) [])) rfl (hb hby at_78) (by decide) (by decide)
        obtain ⟨br4, gr4⟩ : ∃ z, z = h0.size := ⟨_, rfl⟩
        rw [← gr4] at Ar4 Dr4 str4
        have f7 : Fld Z hr4 br4 zs22 "counts" "[I" .null := Dr4 (Or.inr (ww hw 42 rfl)) (ty := (.array .int)) (by decide)
        have f8 : Fld Z hr4 br4 zs22 zs23 zs24 .null := Dr4 (Or.inr (ww hw 68 rfl)) (ty := (.object zs25)) (by decide)
        have f9 : Sta Z hr4 zs0 "$VALUES" zs12 (.ref w3) := (Sta.ext Er4 S6)
        have f10 : Arv Z hr4 w3 kl0 (.object zs0) (8 : Int32) [(.ref w0), (.ref w4), (.ref w2), (.ref w1), (.ref w5), (.ref w6), (.ref w7), (.ref w8)] .null := (S30.ext Er4)
        have f11 : Exa Z hr4 w3 zs12 := (Exa.ext Er4 S7)
        have g1 : n0 ≤ br4 := Nat.le_trans Z0 (Nat.le_of_eq gr4.symm)
        have f12 : Sta Z hr4 zs17 zs21 zs19 (.ref w10) := (Sta.ext Er4 S28)
        have Z_1 : n0 ≤ hr4.size := Nat.le_trans Z0 Er4.1
        obtain ⟨_, Tr5, Lr5, Xr5, hQr5, str5⟩ := ocallI Xr4 hx hZ zm5 rfl hown (ww hw 14 rfl) (ww hw 15 rfl) (by decide) (ww hw 16 rfl) (ww hw 13 rfl) er4 (rm2_13 l Z a0 hw [] br4 w3 w0 w4 w2 w1 w5 w6 w7 w8 kl0 w10 hr4 n0 Z_1 f9 f10 f11 f7 f8 Ar4 g1 f12) (st := [(.ref br4), (.ref br4)]) rfl 1 rfl (by decide) (pc := 82) (Ls := (lc9 i0 i1 i2 i3 z1 z2 z3 0 1 1 u1 u2 u3)) hml rfl (lenOf pd_2 rfl) at_82 hby
        obtain ⟨b1, b2, k1, rfl, Nr5q, Kr5, sz1, sz2, ne1, f13, f14, f15, f16, f17, f18, f19⟩ := hQr5
        have N4 := Fr.app N3 Nr5q
        have f20 : Exa Z Tr5.heap br4 zs22 := (Ar4.keep Kr5)
        have f21 : Exa Z Tr5.heap u2 zs0 := ((Exa.ext Er4 f3).keep Kr5)
        have ne2 : u2 ≠ br4 := Nat.ne_of_lt (Nat.lt_of_lt_of_le (f4.lt) (Nat.le_of_eq gr4.symm))
        have f22 : Fld Z Tr5.heap u2 zs26 "ordinal" "I" (.int z2) := ((Fld.ext Er4 f4).keep Kr5 (ninS ne2 nin0))
        have g2 : n0 ≤ b1 := Nat.le_trans Z_1 sz1
        have Z_2 : n0 ≤ Tr5.heap.size := Nat.le_trans Z_1 Kr5.1
        obtain ⟨_, Tr6, Lr6, Xr6, hQr6, str6⟩ := ocallV Xr5 hx hZ zm7 zm7 hown (ww hw 69 rfl) (ww hw 70 rfl) (notFace_of_selects (args := #[]) (mvT hZ (ww hw 72 rfl))) (ww hw 72 rfl) (ww hw 71 rfl) (by decide) (ww hw 73 rfl) (ww hw 13 rfl) rfl f20 (rm8_15 l Z a0 hw [] br4 u2 b1 z2 k1 Tr5.heap n0 Z_2 f13 f21 f22 f16 hs8 hs10 g2) (st := [(.int 0), (.ref u2), (.ref br4)]) rfl 0 rfl (by decide) (pc := 93) (Ls := (lc12 i0 i1 i2 i3 z1 z2 z3 0 1 1 u1 u2 u3 br4)) hml rfl (lenOf pd_4 rfl) at_93 hby
        obtain ⟨rfl, Nr6q, Kr6, f23⟩ := hQr6
        have N5 := Fr.app N4 Nr6q
        have f24 : Exa Z Tr6.heap br4 zs22 := (f20.keep Kr6)
        have ne3 : br4 ≠ b1 := Nat.ne_of_lt (Nat.lt_of_lt_of_le (f7.lt) sz1)
        have f25 : Fld Z Tr6.heap br4 zs22 "counts" "[I" (.ref b1) := (f13.keep Kr6 (ninS ne3 nin0))
        have f26 : Exa Z Tr6.heap u1 zs0 := (((Exa.ext Er4 f1).keep Kr5).keep Kr6)
        have ne4 : u1 ≠ br4 := Nat.ne_of_lt (Nat.lt_of_lt_of_le (f2.lt) (Nat.le_of_eq gr4.symm))
        have ne5 : u1 ≠ b1 := Nat.ne_of_lt (Nat.lt_of_lt_of_le (Nat.lt_of_lt_of_le (f2.lt) Er4.1) sz1)
        have f27 : Fld Z Tr6.heap u1 zs26 "ordinal" "I" (.int z1) := (((Fld.ext Er4 f2).keep Kr5 (ninS ne4 nin0)).keep Kr6 (ninS ne5 nin0))
        have Z_3 : n0 ≤ Tr6.heap.size := Nat.le_trans Z_2 Kr6.1
        by_cases hk17 : (i0 &&& (7 : Int32)) = (i1 &&& (7 : Int32))
        · have hc15 : (i0 &&& (7 : Int32)) = (i1 &&& (7 : Int32)) := hk17
          have hs16 : z1 = z2 := by rw [hz2, hz1]; exact hc15
          obtain ⟨_, Tr7, Lr7, Xr7, hQr7, str7⟩ := ocallV Xr6 hx hZ zm7 zm7 hown (ww hw 69 rfl) (ww hw 70 rfl) (notFace_of_selects (args := #[]) (mvT hZ (ww hw 72 rfl))) (ww hw 72 rfl) (ww hw 71 rfl) (by decide) (ww hw 73 rfl) (ww hw 13 rfl) rfl f24 (rm8_30 l Z a0 hw [] br4 u1 b1 z1 k1 z2 Tr6.heap n0 Z_3 f25 f26 f27 f23 hs4 hs6 hs16 g2) (st := [(.int 1), (.ref u1), (.ref br4)]) rfl 0 rfl (by decide) (pc := 102) (Ls := (lc12 i0 i1 i2 i3 z1 z2 z3 0 1 1 u1 u2 u3 br4)) hml rfl (lenOf pd_4 rfl) at_102 hby
          obtain ⟨rfl, Nr7q, Kr7, f28⟩ := hQr7
          have N6 := Fr.app N5 Nr7q
          have f29 : Exa Z Tr7.heap br4 zs22 := (f24.keep Kr7)
          have f30 : Fld Z Tr7.heap br4 zs22 "counts" "[I" (.ref b1) := (f25.keep Kr7 (ninS ne3 nin0))
          have f31 : Exa Z Tr7.heap u1 zs0 := (f26.keep Kr7)
          have f32 : Fld Z Tr7.heap u1 zs26 "ordinal" "I" (.int z1) := (f27.keep Kr7 (ninS ne5 nin0))
          have Z_4 : n0 ≤ Tr7.heap.size := Nat.le_trans Z_3 Kr7.1
          obtain ⟨_, Tr8, Lr8, Xr8, hQr8, str8⟩ := ocallV Xr7 hx hZ zm7 zm7 hown (ww hw 69 rfl) (ww hw 70 rfl) (notFace_of_selects (args := #[]) (mvT hZ (ww hw 72 rfl))) (ww hw 72 rfl) (ww hw 71 rfl) (by decide) (ww hw 73 rfl) (ww hw 13 rfl) rfl f29 (rm8_37 l Z a0 hw [] br4 u1 b1 z1 k1 z2 Tr7.heap n0 Z_4 f30 f31 f32 f28 hs4 hs6 g2) (st := [(.int 1), (.ref u1), (.ref br4)]) rfl 0 rfl (by decide) (pc := 111) (Ls := (lc12 i0 i1 i2 i3 z1 z2 z3 0 1 1 u1 u2 u3 br4)) hml rfl (lenOf pd_4 rfl) at_111 hby
          obtain ⟨rfl, Nr8q, Kr8, f33⟩ := hQr8
          have N7 := Fr.app N6 Nr8q
          refine own_go (U' := Tr8.setTop (mkF m 118 (lc12 i0 i1 i2 i3 z1 z2 z3 0 1 1 u1 u2 u3 br4) [(.int z1), (.int z2)])) (fun t k => oastore Xr3 hx hby at_76 (lc9 i0 i1 i2 i3 z1 z2 z3 0 1 1 u1 u2 u3) rfl rfl (str4 _ (odup Xr4 hx hby at_81 rfl (str5 _ (oastore Xr5 hx hby at_85 (lc12 i0 i1 i2 i3 z1 z2 z3 0 1 1 u1 u2 u3 br4) rfl rfl (oaload Xr5 hx hby at_87 rfl rfl (oaload Xr5 hx hby at_89 rfl rfl (oiload Xr5 hx hby at_91 rfl (str6 _ (oaload Xr6 hx hby at_96 rfl rfl (oaload Xr6 hx hby at_98 rfl rfl (oiload Xr6 hx hby at_100 rfl (str7 _ (oaload Xr7 hx hby at_105 rfl rfl (oaload Xr7 hx hby at_107 rfl rfl (oiload Xr7 hx hby at_109 rfl (str8 _ (oiload Xr8 hx hby at_114 rfl (oiload Xr8 hx hby at_116 rfl k))))))))))))))))))) ?_
          have hc17 : (i1 &&& (7 : Int32)) = (i0 &&& (7 : Int32)) := (Int32.toInt_inj.mp (by have := congrArg Int32.toInt hk17; have := c_and i1 (7 : Int32) (by decide); have := (by decide : ((7 : Int32)).toInt = 7); have := c_and i0 (7 : Int32) (by decide); omega))
          have hs18 : z2 = z1 := by rw [hz2, hz1]; exact hc17
          refine own_go (U' := Tr8.setTop (mkF m 123 (lc12 i0 i1 i2 i3 z1 z2 z3 0 1 1 u1 u2 u3 br4) [(.int 0)])) (fun t k => oicN Xr8 hx hby at_118 (teq hs18).2 (oiload Xr8 hx hby at_121 rfl k)) ?_
          have Z_5 : n0 ≤ Tr8.heap.size := Nat.le_trans Z_4 Kr8.1
          obtain ⟨_, Tr9, Lr9, Xr9, hQr9, str9⟩ := ocallS Xr8 hx hZ zm9 hown (ww hw 83 rfl) (ww hw 84 rfl) (by decide) (ww hw 85 rfl) (ww hw 2 rfl) rfl (rm10_18 l Z a0 hw []  Tr8.heap n0 Z_5 ) (st := [(.int 0)]) rfl 0 rfl (by decide) (pc := 131) (Ls := (lc12 i0 i1 i2 i3 z1 z2 z3 0 1 1 u1 u2 u3 br4)) hml rfl (lenOf pd_5 rfl) at_131 hby
          obtain ⟨rfl, Nr9q, er9⟩ := hQr9
          have N8 := Fr.app N7 Nr9q
          obtain ⟨_, Tr10, Lr10, Xr10, hQr10, str10⟩ := ocallS Xr9 hx hZ zm9 hown (ww hw 83 rfl) (ww hw 84 rfl) (by decide) (ww hw 85 rfl) (ww hw 2 rfl) er9 (rm10_25 l Z a0 hw []  Tr8.heap n0 Z_5 ) (st := [(.int 1), (.int 0)]) rfl 1 rfl (by decide) (pc := 136) (Ls := (lc12 i0 i1 i2 i3 z1 z2 z3 0 1 1 u1 u2 u3 br4)) hml rfl (lenOf pd_5 rfl) at_136 hby
          obtain ⟨rfl, Nr10q, er10⟩ := hQr10
          have N9 := Fr.app N8 Nr10q
          obtain ⟨_, Tr11, Lr11, Xr11, hQr11, str11⟩ := ocallS Xr10 hx hZ zm9 hown (ww hw 83 rfl) (ww hw 84 rfl) (by decide) (ww hw 85 rfl) (ww hw 2 rfl) er10 (rm10_25 l Z a0 hw []  Tr8.heap n0 Z_5 ) (st := [(.int 1), (.int 1)]) rfl 1 rfl (by decide) (pc := 142) (Ls := (lc12 i0 i1 i2 i3 z1 z2 z3 0 1 1 u1 u2 u3 br4)) hml rfl (lenOf pd_5 rfl) at_142 hby
          obtain ⟨rfl, Nr11q, er11⟩ := hQr11
          have N10 := Fr.app N9 Nr11q
          refine own_go (U' := Tr11.setTop (mkF m 152 (lc14 i0 i1 i2 i3 z1 z2 z3 0 1 1 u1 u2 u3 br4 2) [(.int z3), (.int z2)])) (fun t k => oifY (pc := 123) Xr8 hx hby at_123 130 (by decide) (by decide) (oiconst Xr8 hx hby at_130 (str9 _ (oiload Xr9 hx hby at_134 rfl (str10 _ (oiadd Xr10 hx hby at_139 (oiload Xr10 hx hby at_140 rfl (str11 _ (oiadd Xr11 hx hby at_145 (oistore Xr11 hx hby at_146 (lc14 i0 i1 i2 i3 z1 z2 z3 0 1 1 u1 u2 u3 br4 2) rfl (oiload Xr11 hx hby at_148 rfl (oiload Xr11 hx hby at_150 rfl k)))))))))))) ?_
          by_cases hk18 : (i1 &&& (7 : Int32)) = (i2 &&& (7 : Int32))
          · have hc19 : (i1 &&& (7 : Int32)) = (i2 &&& (7 : Int32)) := hk18
            have hs20 : z2 = z3 := by rw [hz3, hz2]; exact hc19
            refine own_go (U' := Tr11.setTop (mkF m 157 (lc14 i0 i1 i2 i3 z1 z2 z3 0 1 1 u1 u2 u3 br4 2) [(.int 0)])) (fun t k => oicN Xr11 hx hby at_152 (teq hs20).2 (oiload Xr11 hx hby at_155 rfl k)) ?_
            obtain ⟨_, Tr12, Lr12, Xr12, hQr12, str12⟩ := ocallS Xr11 hx hZ zm9 hown (ww hw 83 rfl) (ww hw 84 rfl) (by decide) (ww hw 85 rfl) (ww hw 2 rfl) er11 (rm10_18 l Z a0 hw []  Tr8.heap n0 Z_5 ) (st := [(.int 0)]) rfl 0 rfl (by decide) (pc := 165) (Ls := (lc14 i0 i1 i2 i3 z1 z2 z3 0 1 1 u1 u2 u3 br4 2)) hml rfl (lenOf pd_5 rfl) at_165 hby
            obtain ⟨rfl, Nr12q, er12⟩ := hQr12
            have N11 := Fr.app N10 Nr12q
            refine own_go (U' := Tr12.setTop (mkF m 172 (lc14 i0 i1 i2 i3 z1 z2 z3 0 1 1 u1 u2 u3 br4 2) [(.int z3), (.int z1), (.int 0)])) (fun t k => oifY (pc := 157) Xr11 hx hby at_157 164 (by decide) (by decide) (oiconst Xr11 hx hby at_164 (str12 _ (oiload Xr12 hx hby at_168 rfl (oiload Xr12 hx hby at_170 rfl k))))) ?_
            have hc21 : (i0 &&& (7 : Int32)) = (i2 &&& (7 : Int32)) := (Int32.toInt_inj.mp (by have := congrArg Int32.toInt hk17; have := congrArg Int32.toInt hk18; have := c_and i0 (7 : Int32) (by decide); have := (by decide : ((7 : Int32)).toInt = 7); have := c_and i2 (7 : Int32) (by decide); have := c_and i1 (7 : Int32) (by decide); omega))
            have hs22 : z1 = z3 := by rw [hz3, hz1]; exact hc21
            refine own_go (U' := Tr12.setTop (mkF m 177 (lc14 i0 i1 i2 i3 z1 z2 z3 0 1 1 u1 u2 u3 br4 2) [(.int 1), (.int 0)])) (fun t k => oicN Xr12 hx hby at_172 (teq hs22).2 (oiload Xr12 hx hby at_175 rfl k)) ?_
            obtain ⟨_, Tr13, Lr13, Xr13, hQr13, str13⟩ := ocallS Xr12 hx hZ zm9 hown (ww hw 83 rfl) (ww hw 84 rfl) (by decide) (ww hw 85 rfl) (ww hw 2 rfl) er12 (rm10_25 l Z a0 hw []  Tr8.heap n0 Z_5 ) (st := [(.int 1), (.int 0)]) rfl 1 rfl (by decide) (pc := 185) (Ls := (lc14 i0 i1 i2 i3 z1 z2 z3 0 1 1 u1 u2 u3 br4 2)) hml rfl (lenOf pd_5 rfl) at_185 hby
            obtain ⟨rfl, Nr13q, er13⟩ := hQr13
            have N12 := Fr.app N11 Nr13q
            refine own_go (U' := Tr13.setTop (mkF m 193 (lc14 i0 i1 i2 i3 z1 z2 z3 0 1 1 u1 u2 u3 br4 2) [(.int z3), (.int z1), (.int 1)])) (fun t k => oifN Xr12 hx hby at_177 (by decide) (oiconst Xr12 hx hby at_180 (ogoto (pc := 181) Xr12 hx hby at_181 185 (by decide) (str13 _ (oiadd Xr13 hx hby at_188 (oiload Xr13 hx hby at_189 rfl (oiload Xr13 hx hby at_191 rfl k))))))) ?_
            refine own_go (U' := Tr13.setTop (mkF m 198 (lc14 i0 i1 i2 i3 z1 z2 z3 0 1 1 u1 u2 u3 br4 2) [(.int 1), (.int 1)])) (fun t k => oicN Xr13 hx hby at_193 (teq hs22).2 (oiload Xr13 hx hby at_196 rfl k)) ?_
            obtain ⟨_, Tr14, Lr14, Xr14, hQr14, str14⟩ := ocallS Xr13 hx hZ zm9 hown (ww hw 83 rfl) (ww hw 84 rfl) (by decide) (ww hw 85 rfl) (ww hw 2 rfl) er13 (rm10_25 l Z a0 hw []  Tr8.heap n0 Z_5 ) (st := [(.int 1), (.int 1)]) rfl 1 rfl (by decide) (pc := 206) (Ls := (lc14 i0 i1 i2 i3 z1 z2 z3 0 1 1 u1 u2 u3 br4 2)) hml rfl (lenOf pd_5 rfl) at_206 hby
            obtain ⟨rfl, Nr14q, er14⟩ := hQr14
            have N13 := Fr.app N12 Nr14q
            have f34 : Exa Z Tr8.heap br4 zs22 := (f29.keep Kr8)
            have f35 : Fld Z Tr8.heap br4 zs22 "counts" "[I" (.ref b1) := (f30.keep Kr8 (ninS ne3 nin0))
            have f36 : Exa Z Tr8.heap u1 zs0 := (f31.keep Kr8)
            have f37 : Fld Z Tr8.heap u1 zs26 "ordinal" "I" (.int z1) := (f32.keep Kr8 (ninS ne5 nin0))
            obtain ⟨_, Tr15, Lr15, Xr15, hQr15, str15⟩ := ocallV Xr14 hx hZ zm10 zm10 hown (ww hw 86 rfl) (ww hw 87 rfl) (notFace_of_selects (args := #[]) (mvT hZ (ww hw 89 rfl))) (ww hw 89 rfl) (ww hw 88 rfl) (by decide) (ww hw 90 rfl) (ww hw 13 rfl) er14 f34 (rm11_38 l Z a0 hw [] br4 u1 b1 z1 k1 z2 Tr8.heap n0 Z_5 f35 f36 f37 f33 hs4 hs6) (st := [(.ref u1), (.ref br4)]) rfl 0 rfl (by decide) (pc := 216) (Ls := (lc15 i0 i1 i2 i3 z1 z2 z3 0 1 1 u1 u2 u3 br4 2 2)) hml rfl (lenOf pd_6 rfl) at_216 hby
            obtain ⟨rfl, Nr15q, er15⟩ := hQr15
            have N14 := Fr.app N13 Nr15q
            refine own_go (U' := Tr15.setTop (mkF m 221 (lc15 i0 i1 i2 i3 z1 z2 z3 0 1 1 u1 u2 u3 br4 2 2) [(.int 2), (.int 2)])) (fun t k => oifN Xr13 hx hby at_198 (by decide) (oiconst Xr13 hx hby at_201 (ogoto (pc := 202) Xr13 hx hby at_202 206 (by decide) (str14 _ (oiadd Xr14 hx hby at_209 (oistore Xr14 hx hby at_210 (lc15 i0 i1 i2 i3 z1 z2 z3 0 1 1 u1 u2 u3 br4 2 2) rfl (oaload Xr14 hx hby at_212 rfl rfl (oaload Xr14 hx hby at_214 rfl rfl (str15 _ (oiload Xr15 hx hby at_219 rfl k)))))))))) ?_
            have f38 : Exa Z Tr8.heap u3 zs0 := (((((Exa.ext Er4 f5).keep Kr5).keep Kr6).keep Kr7).keep Kr8)
            have ne6 : u3 ≠ br4 := Nat.ne_of_lt (Nat.lt_of_lt_of_le (f6.lt) (Nat.le_of_eq gr4.symm))
            have ne7 : u3 ≠ b1 := Nat.ne_of_lt (Nat.lt_of_lt_of_le (Nat.lt_of_lt_of_le (f6.lt) Er4.1) sz1)
            have f39 : Fld Z Tr8.heap u3 zs26 "ordinal" "I" (.int z3) := (((((Fld.ext Er4 f6).keep Kr5 (ninS ne6 nin0)).keep Kr6 (ninS ne7 nin0)).keep Kr7 (ninS ne7 nin0)).keep Kr8 (ninS ne7 nin0))
            have hc23 : (i2 &&& (7 : Int32)) = (i0 &&& (7 : Int32)) := (Int32.toInt_inj.mp (by have := congrArg Int32.toInt hk17; have := congrArg Int32.toInt hk18; have := c_and i2 (7 : Int32) (by decide); have := (by decide : ((7 : Int32)).toInt = 7); have := c_and i0 (7 : Int32) (by decide); have := c_and i1 (7 : Int32) (by decide); omega))
            have hs24 : z3 = z1 := by rw [hz3, hz1]; exact hc23
            obtain ⟨_, Tr16, Lr16, Xr16, hQr16, str16⟩ := ocallV Xr15 hx hZ zm10 zm10 hown (ww hw 86 rfl) (ww hw 87 rfl) (notFace_of_selects (args := #[]) (mvT hZ (ww hw 89 rfl))) (ww hw 89 rfl) (ww hw 88 rfl) (by decide) (ww hw 90 rfl) (ww hw 13 rfl) er15 f34 (rm11_39 l Z a0 hw [] br4 u3 b1 z3 k1 z1 z2 Tr8.heap n0 Z_5 f35 f38 f39 f33 hs12 hs14 hs24) (st := [(.ref u3), (.ref br4)]) rfl 0 rfl (by decide) (pc := 228) (Ls := (lc15 i0 i1 i2 i3 z1 z2 z3 0 1 1 u1 u2 u3 br4 2 2)) hml rfl (lenOf pd_6 rfl) at_228 hby
            obtain ⟨rfl, Nr16q, er16⟩ := hQr16
            have N15 := Fr.app N14 Nr16q
            refine own_go (U' := Tr16.setTop (mkF m 233 (lc15 i0 i1 i2 i3 z1 z2 z3 0 1 1 u1 u2 u3 br4 2 2) [(.int 2), (.int 2)])) (fun t k => oicN Xr15 hx hby at_221 (by decide) (oaload Xr15 hx hby at_224 rfl rfl (oaload Xr15 hx hby at_226 rfl rfl (str16 _ (oiload Xr16 hx hby at_231 rfl k))))) ?_
            refine own_go (U' := Tr16.setTop (mkF m 241 (lc15 i0 i1 i2 i3 z1 z2 z3 0 1 1 u1 u2 u3 br4 2 2) [(.int 1)])) (fun t k => oicN Xr16 hx hby at_233 (by decide) (oiconst Xr16 hx hby at_236 (ogoto (pc := 237) Xr16 hx hby at_237 241 (by decide) k))) ?_
            obtain ⟨fs, hr, hrun, hended, hW, hsame⟩ := Xr16.leave (v := some (.int 1)) (fun h => by rw [Bd.returns] at h; cases h)
            refine own_out ⟨_, _, ?_, hrun, hended, _, _, rfl, ?_, ⟨_, rfl⟩, hW, hsame.mono (by decide) (by decide)⟩
            · exact retN Xr16 hx (t := .boolean) Bd.returns (by simp) (hb hby at_241) hr
            · exact ⟨rfl, N15⟩
          · obtain ⟨_, Tr12, Lr12, Xr12, hQr12, str12⟩ := ocallS Xr11 hx hZ zm9 hown (ww hw 83 rfl) (ww hw 84 rfl) (by decide) (ww hw 85 rfl) (ww hw 2 rfl) er11 (rm10_18 l Z a0 hw []  Tr8.heap n0 Z_5 ) (st := [(.int 0)]) rfl 0 rfl (by decide) (pc := 165) (Ls := (lc14 i0 i1 i2 i3 z1 z2 z3 0 1 1 u1 u2 u3 br4 2)) hml rfl (lenOf pd_5 rfl) at_165 hby
            obtain ⟨rfl, Nr12q, er12⟩ := hQr12
            have N11 := Fr.app N10 Nr12q
            have hc25 : ¬ ((i1 &&& (7 : Int32)) = (i2 &&& (7 : Int32))) := hk18
            have hs26 : ¬ (z2 = z3) := by rw [hz3, hz2]; exact hc25
            refine own_go (U' := Tr12.setTop (mkF m 172 (lc14 i0 i1 i2 i3 z1 z2 z3 0 1 1 u1 u2 u3 br4 2) [(.int z3), (.int z1), (.int 0)])) (fun t k => oicY (pc := 152) Xr11 hx hby at_152 164 (feq hs26).2 (by decide) (oiconst Xr11 hx hby at_164 (str12 _ (oiload Xr12 hx hby at_168 rfl (oiload Xr12 hx hby at_170 rfl k))))) ?_
            obtain ⟨_, Tr13, Lr13, Xr13, hQr13, str13⟩ := ocallS Xr12 hx hZ zm9 hown (ww hw 83 rfl) (ww hw 84 rfl) (by decide) (ww hw 85 rfl) (ww hw 2 rfl) er12 (rm10_18 l Z a0 hw []  Tr8.heap n0 Z_5 ) (st := [(.int 0), (.int 0)]) rfl 1 rfl (by decide) (pc := 185) (Ls := (lc14 i0 i1 i2 i3 z1 z2 z3 0 1 1 u1 u2 u3 br4 2)) hml rfl (lenOf pd_5 rfl) at_185 hby
            obtain ⟨rfl, Nr13q, er13⟩ := hQr13
            have N12 := Fr.app N11 Nr13q
            have hc27 : ¬ ((i0 &&& (7 : Int32)) = (i2 &&& (7 : Int32))) := (fun e => by have := congrArg Int32.toInt e; have := congrArg Int32.toInt hk17; have : ¬ ((i1 &&& (7 : Int32))).toInt = ((i2 &&& (7 : Int32))).toInt := fun e => hk18 (Int32.toInt_inj.mp e); have := c_and i0 (7 : Int32) (by decide); have := (by decide : ((7 : Int32)).toInt = 7); have := c_and i2 (7 : Int32) (by decide); have := c_and i1 (7 : Int32) (by decide); omega)
            have hs28 : ¬ (z1 = z3) := by rw [hz3, hz1]; exact hc27
            refine own_go (U' := Tr13.setTop (mkF m 193 (lc14 i0 i1 i2 i3 z1 z2 z3 0 1 1 u1 u2 u3 br4 2) [(.int z3), (.int z1), (.int 0)])) (fun t k => oicY (pc := 172) Xr12 hx hby at_172 184 (feq hs28).2 (by decide) (oiconst Xr12 hx hby at_184 (str13 _ (oiadd Xr13 hx hby at_188 (oiload Xr13 hx hby at_189 rfl (oiload Xr13 hx hby at_191 rfl k)))))) ?_
            obtain ⟨_, Tr14, Lr14, Xr14, hQr14, str14⟩ := ocallS Xr13 hx hZ zm9 hown (ww hw 83 rfl) (ww hw 84 rfl) (by decide) (ww hw 85 rfl) (ww hw 2 rfl) er13 (rm10_18 l Z a0 hw []  Tr8.heap n0 Z_5 ) (st := [(.int 0), (.int 0)]) rfl 1 rfl (by decide) (pc := 206) (Ls := (lc14 i0 i1 i2 i3 z1 z2 z3 0 1 1 u1 u2 u3 br4 2)) hml rfl (lenOf pd_5 rfl) at_206 hby
            obtain ⟨rfl, Nr14q, er14⟩ := hQr14
            have N13 := Fr.app N12 Nr14q
            have f34 : Exa Z Tr8.heap br4 zs22 := (f29.keep Kr8)
            have f35 : Fld Z Tr8.heap br4 zs22 "counts" "[I" (.ref b1) := (f30.keep Kr8 (ninS ne3 nin0))
            have f36 : Exa Z Tr8.heap u1 zs0 := (f31.keep Kr8)
            have f37 : Fld Z Tr8.heap u1 zs26 "ordinal" "I" (.int z1) := (f32.keep Kr8 (ninS ne5 nin0))
            obtain ⟨_, Tr15, Lr15, Xr15, hQr15, str15⟩ := ocallV Xr14 hx hZ zm10 zm10 hown (ww hw 86 rfl) (ww hw 87 rfl) (notFace_of_selects (args := #[]) (mvT hZ (ww hw 89 rfl))) (ww hw 89 rfl) (ww hw 88 rfl) (by decide) (ww hw 90 rfl) (ww hw 13 rfl) er14 f34 (rm11_38 l Z a0 hw [] br4 u1 b1 z1 k1 z2 Tr8.heap n0 Z_5 f35 f36 f37 f33 hs4 hs6) (st := [(.ref u1), (.ref br4)]) rfl 0 rfl (by decide) (pc := 216) (Ls := (lc15 i0 i1 i2 i3 z1 z2 z3 0 1 1 u1 u2 u3 br4 2 0)) hml rfl (lenOf pd_6 rfl) at_216 hby
            obtain ⟨rfl, Nr15q, er15⟩ := hQr15
            have N14 := Fr.app N13 Nr15q
            refine own_go (U' := Tr15.setTop (mkF m 221 (lc15 i0 i1 i2 i3 z1 z2 z3 0 1 1 u1 u2 u3 br4 2 0) [(.int 2), (.int 2)])) (fun t k => oicY (pc := 193) Xr13 hx hby at_193 205 (feq hs28).2 (by decide) (oiconst Xr13 hx hby at_205 (str14 _ (oiadd Xr14 hx hby at_209 (oistore Xr14 hx hby at_210 (lc15 i0 i1 i2 i3 z1 z2 z3 0 1 1 u1 u2 u3 br4 2 0) rfl (oaload Xr14 hx hby at_212 rfl rfl (oaload Xr14 hx hby at_214 rfl rfl (str15 _ (oiload Xr15 hx hby at_219 rfl k))))))))) ?_
            have f38 : Exa Z Tr8.heap u3 zs0 := (((((Exa.ext Er4 f5).keep Kr5).keep Kr6).keep Kr7).keep Kr8)
            have ne6 : u3 ≠ br4 := Nat.ne_of_lt (Nat.lt_of_lt_of_le (f6.lt) (Nat.le_of_eq gr4.symm))
            have ne7 : u3 ≠ b1 := Nat.ne_of_lt (Nat.lt_of_lt_of_le (Nat.lt_of_lt_of_le (f6.lt) Er4.1) sz1)
            have f39 : Fld Z Tr8.heap u3 zs26 "ordinal" "I" (.int z3) := (((((Fld.ext Er4 f6).keep Kr5 (ninS ne6 nin0)).keep Kr6 (ninS ne7 nin0)).keep Kr7 (ninS ne7 nin0)).keep Kr8 (ninS ne7 nin0))
            have hc29 : ¬ ((i2 &&& (7 : Int32)) = (i0 &&& (7 : Int32))) := (fun e => by have := congrArg Int32.toInt e; have := congrArg Int32.toInt hk17; have : ¬ ((i1 &&& (7 : Int32))).toInt = ((i2 &&& (7 : Int32))).toInt := fun e => hk18 (Int32.toInt_inj.mp e); have := c_and i2 (7 : Int32) (by decide); have := (by decide : ((7 : Int32)).toInt = 7); have := c_and i0 (7 : Int32) (by decide); have := c_and i1 (7 : Int32) (by decide); omega)
            have hs30 : ¬ (z3 = z1) := by rw [hz3, hz1]; exact hc29
            have hc31 : ¬ ((i2 &&& (7 : Int32)) = (i1 &&& (7 : Int32))) := (fun e => by have := congrArg Int32.toInt e; have : ¬ ((i1 &&& (7 : Int32))).toInt = ((i2 &&& (7 : Int32))).toInt := fun e => hk18 (Int32.toInt_inj.mp e); have := c_and i2 (7 : Int32) (by decide); have := (by decide : ((7 : Int32)).toInt = 7); have := c_and i1 (7 : Int32) (by decide); omega)
            have hs32 : ¬ (z3 = z2) := by rw [hz3, hz2]; exact hc31
            obtain ⟨_, Tr16, Lr16, Xr16, hQr16, str16⟩ := ocallV Xr15 hx hZ zm10 zm10 hown (ww hw 86 rfl) (ww hw 87 rfl) (notFace_of_selects (args := #[]) (mvT hZ (ww hw 89 rfl))) (ww hw 89 rfl) (ww hw 88 rfl) (by decide) (ww hw 90 rfl) (ww hw 13 rfl) er15 f34 (rm11_40 l Z a0 hw [] br4 u3 b1 z3 k1 z1 z2 Tr8.heap n0 Z_5 f35 f38 f39 f33 hs12 hs14 hs30 hs32) (st := [(.ref u3), (.ref br4)]) rfl 0 rfl (by decide) (pc := 228) (Ls := (lc15 i0 i1 i2 i3 z1 z2 z3 0 1 1 u1 u2 u3 br4 2 0)) hml rfl (lenOf pd_6 rfl) at_228 hby
            obtain ⟨rfl, Nr16q, er16⟩ := hQr16
            have N15 := Fr.app N14 Nr16q
            refine own_go (U' := Tr16.setTop (mkF m 233 (lc15 i0 i1 i2 i3 z1 z2 z3 0 1 1 u1 u2 u3 br4 2 0) [(.int 0), (.int 0)])) (fun t k => oicN Xr15 hx hby at_221 (by decide) (oaload Xr15 hx hby at_224 rfl rfl (oaload Xr15 hx hby at_226 rfl rfl (str16 _ (oiload Xr16 hx hby at_231 rfl k))))) ?_
            refine own_go (U' := Tr16.setTop (mkF m 241 (lc15 i0 i1 i2 i3 z1 z2 z3 0 1 1 u1 u2 u3 br4 2 0) [(.int 1)])) (fun t k => oicN Xr16 hx hby at_233 (by decide) (oiconst Xr16 hx hby at_236 (ogoto (pc := 237) Xr16 hx hby at_237 241 (by decide) k))) ?_
            obtain ⟨fs, hr, hrun, hended, hW, hsame⟩ := Xr16.leave (v := some (.int 1)) (fun h => by rw [Bd.returns] at h; cases h)
            refine own_out ⟨_, _, ?_, hrun, hended, _, _, rfl, ?_, ⟨_, rfl⟩, hW, hsame.mono (by decide) (by decide)⟩
            · exact retN Xr16 hx (t := .boolean) Bd.returns (by simp) (hb hby at_241) hr
            · exact ⟨rfl, N15⟩
        · have hc33 : ¬ ((i0 &&& (7 : Int32)) = (i1 &&& (7 : Int32))) := hk17
          have hs34 : ¬ (z1 = z2) := by rw [hz2, hz1]; exact hc33
          obtain ⟨_, Tr7, Lr7, Xr7, hQr7, str7⟩ := ocallV Xr6 hx hZ zm7 zm7 hown (ww hw 69 rfl) (ww hw 70 rfl) (notFace_of_selects (args := #[]) (mvT hZ (ww hw 72 rfl))) (ww hw 72 rfl) (ww hw 71 rfl) (by decide) (ww hw 73 rfl) (ww hw 13 rfl) rfl f24 (rm8_35 l Z a0 hw [] br4 u1 b1 z1 k1 z2 Tr6.heap n0 Z_3 f25 f26 f27 f23 hs4 hs6 hs34 g2) (st := [(.int 1), (.ref u1), (.ref br4)]) rfl 0 rfl (by decide) (pc := 102) (Ls := (lc12 i0 i1 i2 i3 z1 z2 z3 0 1 1 u1 u2 u3 br4)) hml rfl (lenOf pd_4 rfl) at_102 hby
          obtain ⟨rfl, Nr7q, Kr7, f28⟩ := hQr7
          have N6 := Fr.app N5 Nr7q
          have f29 : Exa Z Tr7.heap br4 zs22 := (f24.keep Kr7)
          have f30 : Fld Z Tr7.heap br4 zs22 "counts" "[I" (.ref b1) := (f25.keep Kr7 (ninS ne3 nin0))
          have f31 : Exa Z Tr7.heap u1 zs0 := (f26.keep Kr7)
          have f32 : Fld Z Tr7.heap u1 zs26 "ordinal" "I" (.int z1) := (f27.keep Kr7 (ninS ne5 nin0))
          have Z_4 : n0 ≤ Tr7.heap.size := Nat.le_trans Z_3 Kr7.1
          obtain ⟨_, Tr8, Lr8, Xr8, hQr8, str8⟩ := ocallV Xr7 hx hZ zm7 zm7 hown (ww hw 69 rfl) (ww hw 70 rfl) (notFace_of_selects (args := #[]) (mvT hZ (ww hw 72 rfl))) (ww hw 72 rfl) (ww hw 71 rfl) (by decide) (ww hw 73 rfl) (ww hw 13 rfl) rfl f29 (rm8_37 l Z a0 hw [] br4 u1 b1 z1 k1 z2 Tr7.heap n0 Z_4 f30 f31 f32 f28 hs4 hs6 g2) (st := [(.int 1), (.ref u1), (.ref br4)]) rfl 0 rfl (by decide) (pc := 111) (Ls := (lc12 i0 i1 i2 i3 z1 z2 z3 0 1 1 u1 u2 u3 br4)) hml rfl (lenOf pd_4 rfl) at_111 hby
          obtain ⟨rfl, Nr8q, Kr8, f33⟩ := hQr8
          have N7 := Fr.app N6 Nr8q
          refine own_go (U' := Tr8.setTop (mkF m 118 (lc12 i0 i1 i2 i3 z1 z2 z3 0 1 1 u1 u2 u3 br4) [(.int z1), (.int z2)])) (fun t k => oastore Xr3 hx hby at_76 (lc9 i0 i1 i2 i3 z1 z2 z3 0 1 1 u1 u2 u3) rfl rfl (str4 _ (odup Xr4 hx hby at_81 rfl (str5 _ (oastore Xr5 hx hby at_85 (lc12 i0 i1 i2 i3 z1 z2 z3 0 1 1 u1 u2 u3 br4) rfl rfl (oaload Xr5 hx hby at_87 rfl rfl (oaload Xr5 hx hby at_89 rfl rfl (oiload Xr5 hx hby at_91 rfl (str6 _ (oaload Xr6 hx hby at_96 rfl rfl (oaload Xr6 hx hby at_98 rfl rfl (oiload Xr6 hx hby at_100 rfl (str7 _ (oaload Xr7 hx hby at_105 rfl rfl (oaload Xr7 hx hby at_107 rfl rfl (oiload Xr7 hx hby at_109 rfl (str8 _ (oiload Xr8 hx hby at_114 rfl (oiload Xr8 hx hby at_116 rfl k))))))))))))))))))) ?_
          have Z_5 : n0 ≤ Tr8.heap.size := Nat.le_trans Z_4 Kr8.1
          obtain ⟨_, Tr9, Lr9, Xr9, hQr9, str9⟩ := ocallS Xr8 hx hZ zm9 hown (ww hw 83 rfl) (ww hw 84 rfl) (by decide) (ww hw 85 rfl) (ww hw 2 rfl) rfl (rm10_18 l Z a0 hw []  Tr8.heap n0 Z_5 ) (st := [(.int 0)]) rfl 0 rfl (by decide) (pc := 131) (Ls := (lc12 i0 i1 i2 i3 z1 z2 z3 0 1 1 u1 u2 u3 br4)) hml rfl (lenOf pd_5 rfl) at_131 hby
          obtain ⟨rfl, Nr9q, er9⟩ := hQr9
          have N8 := Fr.app N7 Nr9q
          obtain ⟨_, Tr10, Lr10, Xr10, hQr10, str10⟩ := ocallS Xr9 hx hZ zm9 hown (ww hw 83 rfl) (ww hw 84 rfl) (by decide) (ww hw 85 rfl) (ww hw 2 rfl) er9 (rm10_25 l Z a0 hw []  Tr8.heap n0 Z_5 ) (st := [(.int 1), (.int 0)]) rfl 1 rfl (by decide) (pc := 136) (Ls := (lc12 i0 i1 i2 i3 z1 z2 z3 0 1 1 u1 u2 u3 br4)) hml rfl (lenOf pd_5 rfl) at_136 hby
          obtain ⟨rfl, Nr10q, er10⟩ := hQr10
          have N9 := Fr.app N8 Nr10q
          obtain ⟨_, Tr11, Lr11, Xr11, hQr11, str11⟩ := ocallS Xr10 hx hZ zm9 hown (ww hw 83 rfl) (ww hw 84 rfl) (by decide) (ww hw 85 rfl) (ww hw 2 rfl) er10 (rm10_25 l Z a0 hw []  Tr8.heap n0 Z_5 ) (st := [(.int 1), (.int 1)]) rfl 1 rfl (by decide) (pc := 142) (Ls := (lc12 i0 i1 i2 i3 z1 z2 z3 0 1 1 u1 u2 u3 br4)) hml rfl (lenOf pd_5 rfl) at_142 hby
          obtain ⟨rfl, Nr11q, er11⟩ := hQr11
          have N10 := Fr.app N9 Nr11q
          have hc35 : ¬ ((i1 &&& (7 : Int32)) = (i0 &&& (7 : Int32))) := (fun e => by have := congrArg Int32.toInt e; have : ¬ ((i0 &&& (7 : Int32))).toInt = ((i1 &&& (7 : Int32))).toInt := fun e => hk17 (Int32.toInt_inj.mp e); have := c_and i1 (7 : Int32) (by decide); have := (by decide : ((7 : Int32)).toInt = 7); have := c_and i0 (7 : Int32) (by decide); omega)
          have hs36 : ¬ (z2 = z1) := by rw [hz2, hz1]; exact hc35
          refine own_go (U' := Tr11.setTop (mkF m 152 (lc14 i0 i1 i2 i3 z1 z2 z3 0 1 1 u1 u2 u3 br4 2) [(.int z3), (.int z2)])) (fun t k => oicY (pc := 118) Xr8 hx hby at_118 130 (feq hs36).2 (by decide) (oiconst Xr8 hx hby at_130 (str9 _ (oiload Xr9 hx hby at_134 rfl (str10 _ (oiadd Xr10 hx hby at_139 (oiload Xr10 hx hby at_140 rfl (str11 _ (oiadd Xr11 hx hby at_145 (oistore Xr11 hx hby at_146 (lc14 i0 i1 i2 i3 z1 z2 z3 0 1 1 u1 u2 u3 br4 2) rfl (oiload Xr11 hx hby at_148 rfl (oiload Xr11 hx hby at_150 rfl k)))))))))))) ?_
          by_cases hk19 : (i1 &&& (7 : Int32)) = (i2 &&& (7 : Int32))
          · have hc19 : (i1 &&& (7 : Int32)) = (i2 &&& (7 : Int32)) := hk19
            have hs20 : z2 = z3 := by rw [hz3, hz2]; exact hc19
            refine own_go (U' := Tr11.setTop (mkF m 157 (lc14 i0 i1 i2 i3 z1 z2 z3 0 1 1 u1 u2 u3 br4 2) [(.int 0)])) (fun t k => oicN Xr11 hx hby at_152 (teq hs20).2 (oiload Xr11 hx hby at_155 rfl k)) ?_
            obtain ⟨_, Tr12, Lr12, Xr12, hQr12, str12⟩ := ocallS Xr11 hx hZ zm9 hown (ww hw 83 rfl) (ww hw 84 rfl) (by decide) (ww hw 85 rfl) (ww hw 2 rfl) er11 (rm10_18 l Z a0 hw []  Tr8.heap n0 Z_5 ) (st := [(.int 0)]) rfl 0 rfl (by decide) (pc := 165) (Ls := (lc14 i0 i1 i2 i3 z1 z2 z3 0 1 1 u1 u2 u3 br4 2)) hml rfl (lenOf pd_5 rfl) at_165 hby
            obtain ⟨rfl, Nr12q, er12⟩ := hQr12
            have N11 := Fr.app N10 Nr12q
            refine own_go (U' := Tr12.setTop (mkF m 172 (lc14 i0 i1 i2 i3 z1 z2 z3 0 1 1 u1 u2 u3 br4 2) [(.int z3), (.int z1), (.int 0)])) (fun t k => oifY (pc := 157) Xr11 hx hby at_157 164 (by decide) (by decide) (oiconst Xr11 hx hby at_164 (str12 _ (oiload Xr12 hx hby at_168 rfl (oiload Xr12 hx hby at_170 rfl k))))) ?_
            obtain ⟨_, Tr13, Lr13, Xr13, hQr13, str13⟩ := ocallS Xr12 hx hZ zm9 hown (ww hw 83 rfl) (ww hw 84 rfl) (by decide) (ww hw 85 rfl) (ww hw 2 rfl) er12 (rm10_18 l Z a0 hw []  Tr8.heap n0 Z_5 ) (st := [(.int 0), (.int 0)]) rfl 1 rfl (by decide) (pc := 185) (Ls := (lc14 i0 i1 i2 i3 z1 z2 z3 0 1 1 u1 u2 u3 br4 2)) hml rfl (lenOf pd_5 rfl) at_185 hby
            obtain ⟨rfl, Nr13q, er13⟩ := hQr13
            have N12 := Fr.app N11 Nr13q
            have hc27 : ¬ ((i0 &&& (7 : Int32)) = (i2 &&& (7 : Int32))) := (fun e => by have := congrArg Int32.toInt e; have : ¬ ((i0 &&& (7 : Int32))).toInt = ((i1 &&& (7 : Int32))).toInt := fun e => hk17 (Int32.toInt_inj.mp e); have := congrArg Int32.toInt hk19; have := c_and i0 (7 : Int32) (by decide); have := (by decide : ((7 : Int32)).toInt = 7); have := c_and i2 (7 : Int32) (by decide); have := c_and i1 (7 : Int32) (by decide); omega)
            have hs28 : ¬ (z1 = z3) := by rw [hz3, hz1]; exact hc27
            refine own_go (U' := Tr13.setTop (mkF m 193 (lc14 i0 i1 i2 i3 z1 z2 z3 0 1 1 u1 u2 u3 br4 2) [(.int z3), (.int z1), (.int 0)])) (fun t k => oicY (pc := 172) Xr12 hx hby at_172 184 (feq hs28).2 (by decide) (oiconst Xr12 hx hby at_184 (str13 _ (oiadd Xr13 hx hby at_188 (oiload Xr13 hx hby at_189 rfl (oiload Xr13 hx hby at_191 rfl k)))))) ?_
            obtain ⟨_, Tr14, Lr14, Xr14, hQr14, str14⟩ := ocallS Xr13 hx hZ zm9 hown (ww hw 83 rfl) (ww hw 84 rfl) (by decide) (ww hw 85 rfl) (ww hw 2 rfl) er13 (rm10_18 l Z a0 hw []  Tr8.heap n0 Z_5 ) (st := [(.int 0), (.int 0)]) rfl 1 rfl (by decide) (pc := 206) (Ls := (lc14 i0 i1 i2 i3 z1 z2 z3 0 1 1 u1 u2 u3 br4 2)) hml rfl (lenOf pd_5 rfl) at_206 hby
            obtain ⟨rfl, Nr14q, er14⟩ := hQr14
            have N13 := Fr.app N12 Nr14q
            have f34 : Exa Z Tr8.heap br4 zs22 := (f29.keep Kr8)
            have f35 : Fld Z Tr8.heap br4 zs22 "counts" "[I" (.ref b1) := (f30.keep Kr8 (ninS ne3 nin0))
            have f36 : Exa Z Tr8.heap u1 zs0 := (f31.keep Kr8)
            have f37 : Fld Z Tr8.heap u1 zs26 "ordinal" "I" (.int z1) := (f32.keep Kr8 (ninS ne5 nin0))
            obtain ⟨_, Tr15, Lr15, Xr15, hQr15, str15⟩ := ocallV Xr14 hx hZ zm10 zm10 hown (ww hw 86 rfl) (ww hw 87 rfl) (notFace_of_selects (args := #[]) (mvT hZ (ww hw 89 rfl))) (ww hw 89 rfl) (ww hw 88 rfl) (by decide) (ww hw 90 rfl) (ww hw 13 rfl) er14 f34 (rm11_38 l Z a0 hw [] br4 u1 b1 z1 k1 z2 Tr8.heap n0 Z_5 f35 f36 f37 f33 hs4 hs6) (st := [(.ref u1), (.ref br4)]) rfl 0 rfl (by decide) (pc := 216) (Ls := (lc15 i0 i1 i2 i3 z1 z2 z3 0 1 1 u1 u2 u3 br4 2 0)) hml rfl (lenOf pd_6 rfl) at_216 hby
            obtain ⟨rfl, Nr15q, er15⟩ := hQr15
            have N14 := Fr.app N13 Nr15q
            refine own_go (U' := Tr15.setTop (mkF m 221 (lc15 i0 i1 i2 i3 z1 z2 z3 0 1 1 u1 u2 u3 br4 2 0) [(.int 2), (.int 2)])) (fun t k => oicY (pc := 193) Xr13 hx hby at_193 205 (feq hs28).2 (by decide) (oiconst Xr13 hx hby at_205 (str14 _ (oiadd Xr14 hx hby at_209 (oistore Xr14 hx hby at_210 (lc15 i0 i1 i2 i3 z1 z2 z3 0 1 1 u1 u2 u3 br4 2 0) rfl (oaload Xr14 hx hby at_212 rfl rfl (oaload Xr14 hx hby at_214 rfl rfl (str15 _ (oiload Xr15 hx hby at_219 rfl k))))))))) ?_
            have f38 : Exa Z Tr8.heap u3 zs0 := (((((Exa.ext Er4 f5).keep Kr5).keep Kr6).keep Kr7).keep Kr8)
            have ne6 : u3 ≠ br4 := Nat.ne_of_lt (Nat.lt_of_lt_of_le (f6.lt) (Nat.le_of_eq gr4.symm))
            have ne7 : u3 ≠ b1 := Nat.ne_of_lt (Nat.lt_of_lt_of_le (Nat.lt_of_lt_of_le (f6.lt) Er4.1) sz1)
            have f39 : Fld Z Tr8.heap u3 zs26 "ordinal" "I" (.int z3) := (((((Fld.ext Er4 f6).keep Kr5 (ninS ne6 nin0)).keep Kr6 (ninS ne7 nin0)).keep Kr7 (ninS ne7 nin0)).keep Kr8 (ninS ne7 nin0))
            have hc29 : ¬ ((i2 &&& (7 : Int32)) = (i0 &&& (7 : Int32))) := (fun e => by have := congrArg Int32.toInt e; have : ¬ ((i0 &&& (7 : Int32))).toInt = ((i1 &&& (7 : Int32))).toInt := fun e => hk17 (Int32.toInt_inj.mp e); have := congrArg Int32.toInt hk19; have := c_and i2 (7 : Int32) (by decide); have := (by decide : ((7 : Int32)).toInt = 7); have := c_and i0 (7 : Int32) (by decide); have := c_and i1 (7 : Int32) (by decide); omega)
            have hs30 : ¬ (z3 = z1) := by rw [hz3, hz1]; exact hc29
            have hc37 : (i2 &&& (7 : Int32)) = (i1 &&& (7 : Int32)) := (Int32.toInt_inj.mp (by have := congrArg Int32.toInt hk19; have := c_and i2 (7 : Int32) (by decide); have := (by decide : ((7 : Int32)).toInt = 7); have := c_and i1 (7 : Int32) (by decide); omega))
            have hs38 : z3 = z2 := by rw [hz3, hz2]; exact hc37
            obtain ⟨_, Tr16, Lr16, Xr16, hQr16, str16⟩ := ocallV Xr15 hx hZ zm10 zm10 hown (ww hw 86 rfl) (ww hw 87 rfl) (notFace_of_selects (args := #[]) (mvT hZ (ww hw 89 rfl))) (ww hw 89 rfl) (ww hw 88 rfl) (by decide) (ww hw 90 rfl) (ww hw 13 rfl) er15 f34 (rm11_41 l Z a0 hw [] br4 u3 b1 z3 k1 z1 z2 Tr8.heap n0 Z_5 f35 f38 f39 f33 hs12 hs14 hs30 hs38) (st := [(.ref u3), (.ref br4)]) rfl 0 rfl (by decide) (pc := 228) (Ls := (lc15 i0 i1 i2 i3 z1 z2 z3 0 1 1 u1 u2 u3 br4 2 0)) hml rfl (lenOf pd_6 rfl) at_228 hby
            obtain ⟨rfl, Nr16q, er16⟩ := hQr16
            have N15 := Fr.app N14 Nr16q
            refine own_go (U' := Tr16.setTop (mkF m 233 (lc15 i0 i1 i2 i3 z1 z2 z3 0 1 1 u1 u2 u3 br4 2 0) [(.int 0), (.int 0)])) (fun t k => oicN Xr15 hx hby at_221 (by decide) (oaload Xr15 hx hby at_224 rfl rfl (oaload Xr15 hx hby at_226 rfl rfl (str16 _ (oiload Xr16 hx hby at_231 rfl k))))) ?_
            refine own_go (U' := Tr16.setTop (mkF m 241 (lc15 i0 i1 i2 i3 z1 z2 z3 0 1 1 u1 u2 u3 br4 2 0) [(.int 1)])) (fun t k => oicN Xr16 hx hby at_233 (by decide) (oiconst Xr16 hx hby at_236 (ogoto (pc := 237) Xr16 hx hby at_237 241 (by decide) k))) ?_
            obtain ⟨fs, hr, hrun, hended, hW, hsame⟩ := Xr16.leave (v := some (.int 1)) (fun h => by rw [Bd.returns] at h; cases h)
            refine own_out ⟨_, _, ?_, hrun, hended, _, _, rfl, ?_, ⟨_, rfl⟩, hW, hsame.mono (by decide) (by decide)⟩
            · exact retN Xr16 hx (t := .boolean) Bd.returns (by simp) (hb hby at_241) hr
            · exact ⟨rfl, N15⟩
          · obtain ⟨_, Tr12, Lr12, Xr12, hQr12, str12⟩ := ocallS Xr11 hx hZ zm9 hown (ww hw 83 rfl) (ww hw 84 rfl) (by decide) (ww hw 85 rfl) (ww hw 2 rfl) er11 (rm10_18 l Z a0 hw []  Tr8.heap n0 Z_5 ) (st := [(.int 0)]) rfl 0 rfl (by decide) (pc := 165) (Ls := (lc14 i0 i1 i2 i3 z1 z2 z3 0 1 1 u1 u2 u3 br4 2)) hml rfl (lenOf pd_5 rfl) at_165 hby
            obtain ⟨rfl, Nr12q, er12⟩ := hQr12
            have N11 := Fr.app N10 Nr12q
            have hc25 : ¬ ((i1 &&& (7 : Int32)) = (i2 &&& (7 : Int32))) := hk19
            have hs26 : ¬ (z2 = z3) := by rw [hz3, hz2]; exact hc25
            refine own_go (U' := Tr12.setTop (mkF m 172 (lc14 i0 i1 i2 i3 z1 z2 z3 0 1 1 u1 u2 u3 br4 2) [(.int z3), (.int z1), (.int 0)])) (fun t k => oicY (pc := 152) Xr11 hx hby at_152 164 (feq hs26).2 (by decide) (oiconst Xr11 hx hby at_164 (str12 _ (oiload Xr12 hx hby at_168 rfl (oiload Xr12 hx hby at_170 rfl k))))) ?_
            by_cases hk20 : (i0 &&& (7 : Int32)) = (i2 &&& (7 : Int32))
            · have hc21 : (i0 &&& (7 : Int32)) = (i2 &&& (7 : Int32)) := hk20
              have hs22 : z1 = z3 := by rw [hz3, hz1]; exact hc21
              refine own_go (U' := Tr12.setTop (mkF m 177 (lc14 i0 i1 i2 i3 z1 z2 z3 0 1 1 u1 u2 u3 br4 2) [(.int 1), (.int 0)])) (fun t k => oicN Xr12 hx hby at_172 (teq hs22).2 (oiload Xr12 hx hby at_175 rfl k)) ?_
              obtain ⟨_, Tr13, Lr13, Xr13, hQr13, str13⟩ := ocallS Xr12 hx hZ zm9 hown (ww hw 83 rfl) (ww hw 84 rfl) (by decide) (ww hw 85 rfl) (ww hw 2 rfl) er12 (rm10_25 l Z a0 hw []  Tr8.heap n0 Z_5 ) (st := [(.int 1), (.int 0)]) rfl 1 rfl (by decide) (pc := 185) (Ls := (lc14 i0 i1 i2 i3 z1 z2 z3 0 1 1 u1 u2 u3 br4 2)) hml rfl (lenOf pd_5 rfl) at_185 hby
              obtain ⟨rfl, Nr13q, er13⟩ := hQr13
              have N12 := Fr.app N11 Nr13q
              refine own_go (U' := Tr13.setTop (mkF m 193 (lc14 i0 i1 i2 i3 z1 z2 z3 0 1 1 u1 u2 u3 br4 2) [(.int z3), (.int z1), (.int 1)])) (fun t k => oifN Xr12 hx hby at_177 (by decide) (oiconst Xr12 hx hby at_180 (ogoto (pc := 181) Xr12 hx hby at_181 185 (by decide) (str13 _ (oiadd Xr13 hx hby at_188 (oiload Xr13 hx hby at_189 rfl (oiload Xr13 hx hby at_191 rfl k))))))) ?_
              refine own_go (U' := Tr13.setTop (mkF m 198 (lc14 i0 i1 i2 i3 z1 z2 z3 0 1 1 u1 u2 u3 br4 2) [(.int 1), (.int 1)])) (fun t k => oicN Xr13 hx hby at_193 (teq hs22).2 (oiload Xr13 hx hby at_196 rfl k)) ?_
              obtain ⟨_, Tr14, Lr14, Xr14, hQr14, str14⟩ := ocallS Xr13 hx hZ zm9 hown (ww hw 83 rfl) (ww hw 84 rfl) (by decide) (ww hw 85 rfl) (ww hw 2 rfl) er13 (rm10_25 l Z a0 hw []  Tr8.heap n0 Z_5 ) (st := [(.int 1), (.int 1)]) rfl 1 rfl (by decide) (pc := 206) (Ls := (lc14 i0 i1 i2 i3 z1 z2 z3 0 1 1 u1 u2 u3 br4 2)) hml rfl (lenOf pd_5 rfl) at_206 hby
              obtain ⟨rfl, Nr14q, er14⟩ := hQr14
              have N13 := Fr.app N12 Nr14q
              have f34 : Exa Z Tr8.heap br4 zs22 := (f29.keep Kr8)
              have f35 : Fld Z Tr8.heap br4 zs22 "counts" "[I" (.ref b1) := (f30.keep Kr8 (ninS ne3 nin0))
              have f36 : Exa Z Tr8.heap u1 zs0 := (f31.keep Kr8)
              have f37 : Fld Z Tr8.heap u1 zs26 "ordinal" "I" (.int z1) := (f32.keep Kr8 (ninS ne5 nin0))
              obtain ⟨_, Tr15, Lr15, Xr15, hQr15, str15⟩ := ocallV Xr14 hx hZ zm10 zm10 hown (ww hw 86 rfl) (ww hw 87 rfl) (notFace_of_selects (args := #[]) (mvT hZ (ww hw 89 rfl))) (ww hw 89 rfl) (ww hw 88 rfl) (by decide) (ww hw 90 rfl) (ww hw 13 rfl) er14 f34 (rm11_38 l Z a0 hw [] br4 u1 b1 z1 k1 z2 Tr8.heap n0 Z_5 f35 f36 f37 f33 hs4 hs6) (st := [(.ref u1), (.ref br4)]) rfl 0 rfl (by decide) (pc := 216) (Ls := (lc15 i0 i1 i2 i3 z1 z2 z3 0 1 1 u1 u2 u3 br4 2 2)) hml rfl (lenOf pd_6 rfl) at_216 hby
              obtain ⟨rfl, Nr15q, er15⟩ := hQr15
              have N14 := Fr.app N13 Nr15q
              refine own_go (U' := Tr15.setTop (mkF m 221 (lc15 i0 i1 i2 i3 z1 z2 z3 0 1 1 u1 u2 u3 br4 2 2) [(.int 2), (.int 2)])) (fun t k => oifN Xr13 hx hby at_198 (by decide) (oiconst Xr13 hx hby at_201 (ogoto (pc := 202) Xr13 hx hby at_202 206 (by decide) (str14 _ (oiadd Xr14 hx hby at_209 (oistore Xr14 hx hby at_210 (lc15 i0 i1 i2 i3 z1 z2 z3 0 1 1 u1 u2 u3 br4 2 2) rfl (oaload Xr14 hx hby at_212 rfl rfl (oaload Xr14 hx hby at_214 rfl rfl (str15 _ (oiload Xr15 hx hby at_219 rfl k)))))))))) ?_
              have f38 : Exa Z Tr8.heap u3 zs0 := (((((Exa.ext Er4 f5).keep Kr5).keep Kr6).keep Kr7).keep Kr8)
              have ne6 : u3 ≠ br4 := Nat.ne_of_lt (Nat.lt_of_lt_of_le (f6.lt) (Nat.le_of_eq gr4.symm))
              have ne7 : u3 ≠ b1 := Nat.ne_of_lt (Nat.lt_of_lt_of_le (Nat.lt_of_lt_of_le (f6.lt) Er4.1) sz1)
              have f39 : Fld Z Tr8.heap u3 zs26 "ordinal" "I" (.int z3) := (((((Fld.ext Er4 f6).keep Kr5 (ninS ne6 nin0)).keep Kr6 (ninS ne7 nin0)).keep Kr7 (ninS ne7 nin0)).keep Kr8 (ninS ne7 nin0))
              have hc23 : (i2 &&& (7 : Int32)) = (i0 &&& (7 : Int32)) := (Int32.toInt_inj.mp (by have := congrArg Int32.toInt hk20; have := c_and i2 (7 : Int32) (by decide); have := (by decide : ((7 : Int32)).toInt = 7); have := c_and i0 (7 : Int32) (by decide); omega))
              have hs24 : z3 = z1 := by rw [hz3, hz1]; exact hc23
              obtain ⟨_, Tr16, Lr16, Xr16, hQr16, str16⟩ := ocallV Xr15 hx hZ zm10 zm10 hown (ww hw 86 rfl) (ww hw 87 rfl) (notFace_of_selects (args := #[]) (mvT hZ (ww hw 89 rfl))) (ww hw 89 rfl) (ww hw 88 rfl) (by decide) (ww hw 90 rfl) (ww hw 13 rfl) er15 f34 (rm11_39 l Z a0 hw [] br4 u3 b1 z3 k1 z1 z2 Tr8.heap n0 Z_5 f35 f38 f39 f33 hs12 hs14 hs24) (st := [(.ref u3), (.ref br4)]) rfl 0 rfl (by decide) (pc := 228) (Ls := (lc15 i0 i1 i2 i3 z1 z2 z3 0 1 1 u1 u2 u3 br4 2 2)) hml rfl (lenOf pd_6 rfl) at_228 hby
              obtain ⟨rfl, Nr16q, er16⟩ := hQr16
              have N15 := Fr.app N14 Nr16q
              refine own_go (U' := Tr16.setTop (mkF m 233 (lc15 i0 i1 i2 i3 z1 z2 z3 0 1 1 u1 u2 u3 br4 2 2) [(.int 2), (.int 2)])) (fun t k => oicN Xr15 hx hby at_221 (by decide) (oaload Xr15 hx hby at_224 rfl rfl (oaload Xr15 hx hby at_226 rfl rfl (str16 _ (oiload Xr16 hx hby at_231 rfl k))))) ?_
              refine own_go (U' := Tr16.setTop (mkF m 241 (lc15 i0 i1 i2 i3 z1 z2 z3 0 1 1 u1 u2 u3 br4 2 2) [(.int 1)])) (fun t k => oicN Xr16 hx hby at_233 (by decide) (oiconst Xr16 hx hby at_236 (ogoto (pc := 237) Xr16 hx hby at_237 241 (by decide) k))) ?_
              obtain ⟨fs, hr, hrun, hended, hW, hsame⟩ := Xr16.leave (v := some (.int 1)) (fun h => by rw [Bd.returns] at h; cases h)
              refine own_out ⟨_, _, ?_, hrun, hended, _, _, rfl, ?_, ⟨_, rfl⟩, hW, hsame.mono (by decide) (by decide)⟩
              · exact retN Xr16 hx (t := .boolean) Bd.returns (by simp) (hb hby at_241) hr
              · exact ⟨rfl, N15⟩
            · obtain ⟨_, Tr13, Lr13, Xr13, hQr13, str13⟩ := ocallS Xr12 hx hZ zm9 hown (ww hw 83 rfl) (ww hw 84 rfl) (by decide) (ww hw 85 rfl) (ww hw 2 rfl) er12 (rm10_18 l Z a0 hw []  Tr8.heap n0 Z_5 ) (st := [(.int 0), (.int 0)]) rfl 1 rfl (by decide) (pc := 185) (Ls := (lc14 i0 i1 i2 i3 z1 z2 z3 0 1 1 u1 u2 u3 br4 2)) hml rfl (lenOf pd_5 rfl) at_185 hby
              obtain ⟨rfl, Nr13q, er13⟩ := hQr13
              have N12 := Fr.app N11 Nr13q
              have hc27 : ¬ ((i0 &&& (7 : Int32)) = (i2 &&& (7 : Int32))) := hk20
              have hs28 : ¬ (z1 = z3) := by rw [hz3, hz1]; exact hc27
              refine own_go (U' := Tr13.setTop (mkF m 193 (lc14 i0 i1 i2 i3 z1 z2 z3 0 1 1 u1 u2 u3 br4 2) [(.int z3), (.int z1), (.int 0)])) (fun t k => oicY (pc := 172) Xr12 hx hby at_172 184 (feq hs28).2 (by decide) (oiconst Xr12 hx hby at_184 (str13 _ (oiadd Xr13 hx hby at_188 (oiload Xr13 hx hby at_189 rfl (oiload Xr13 hx hby at_191 rfl k)))))) ?_
              obtain ⟨_, Tr14, Lr14, Xr14, hQr14, str14⟩ := ocallS Xr13 hx hZ zm9 hown (ww hw 83 rfl) (ww hw 84 rfl) (by decide) (ww hw 85 rfl) (ww hw 2 rfl) er13 (rm10_18 l Z a0 hw []  Tr8.heap n0 Z_5 ) (st := [(.int 0), (.int 0)]) rfl 1 rfl (by decide) (pc := 206) (Ls := (lc14 i0 i1 i2 i3 z1 z2 z3 0 1 1 u1 u2 u3 br4 2)) hml rfl (lenOf pd_5 rfl) at_206 hby
              obtain ⟨rfl, Nr14q, er14⟩ := hQr14
              have N13 := Fr.app N12 Nr14q
              have f34 : Exa Z Tr8.heap br4 zs22 := (f29.keep Kr8)
              have f35 : Fld Z Tr8.heap br4 zs22 "counts" "[I" (.ref b1) := (f30.keep Kr8 (ninS ne3 nin0))
              have f36 : Exa Z Tr8.heap u1 zs0 := (f31.keep Kr8)
              have f37 : Fld Z Tr8.heap u1 zs26 "ordinal" "I" (.int z1) := (f32.keep Kr8 (ninS ne5 nin0))
              obtain ⟨_, Tr15, Lr15, Xr15, hQr15, str15⟩ := ocallV Xr14 hx hZ zm10 zm10 hown (ww hw 86 rfl) (ww hw 87 rfl) (notFace_of_selects (args := #[]) (mvT hZ (ww hw 89 rfl))) (ww hw 89 rfl) (ww hw 88 rfl) (by decide) (ww hw 90 rfl) (ww hw 13 rfl) er14 f34 (rm11_38 l Z a0 hw [] br4 u1 b1 z1 k1 z2 Tr8.heap n0 Z_5 f35 f36 f37 f33 hs4 hs6) (st := [(.ref u1), (.ref br4)]) rfl 0 rfl (by decide) (pc := 216) (Ls := (lc15 i0 i1 i2 i3 z1 z2 z3 0 1 1 u1 u2 u3 br4 2 0)) hml rfl (lenOf pd_6 rfl) at_216 hby
              obtain ⟨rfl, Nr15q, er15⟩ := hQr15
              have N14 := Fr.app N13 Nr15q
              refine own_go (U' := Tr15.setTop (mkF m 221 (lc15 i0 i1 i2 i3 z1 z2 z3 0 1 1 u1 u2 u3 br4 2 0) [(.int 2), (.int 2)])) (fun t k => oicY (pc := 193) Xr13 hx hby at_193 205 (feq hs28).2 (by decide) (oiconst Xr13 hx hby at_205 (str14 _ (oiadd Xr14 hx hby at_209 (oistore Xr14 hx hby at_210 (lc15 i0 i1 i2 i3 z1 z2 z3 0 1 1 u1 u2 u3 br4 2 0) rfl (oaload Xr14 hx hby at_212 rfl rfl (oaload Xr14 hx hby at_214 rfl rfl (str15 _ (oiload Xr15 hx hby at_219 rfl k))))))))) ?_
              have f38 : Exa Z Tr8.heap u3 zs0 := (((((Exa.ext Er4 f5).keep Kr5).keep Kr6).keep Kr7).keep Kr8)
              have ne6 : u3 ≠ br4 := Nat.ne_of_lt (Nat.lt_of_lt_of_le (f6.lt) (Nat.le_of_eq gr4.symm))
              have ne7 : u3 ≠ b1 := Nat.ne_of_lt (Nat.lt_of_lt_of_le (Nat.lt_of_lt_of_le (f6.lt) Er4.1) sz1)
              have f39 : Fld Z Tr8.heap u3 zs26 "ordinal" "I" (.int z3) := (((((Fld.ext Er4 f6).keep Kr5 (ninS ne6 nin0)).keep Kr6 (ninS ne7 nin0)).keep Kr7 (ninS ne7 nin0)).keep Kr8 (ninS ne7 nin0))
              have hc29 : ¬ ((i2 &&& (7 : Int32)) = (i0 &&& (7 : Int32))) := (fun e => by have := congrArg Int32.toInt e; have : ¬ ((i0 &&& (7 : Int32))).toInt = ((i2 &&& (7 : Int32))).toInt := fun e => hk20 (Int32.toInt_inj.mp e); have := c_and i2 (7 : Int32) (by decide); have := (by decide : ((7 : Int32)).toInt = 7); have := c_and i0 (7 : Int32) (by decide); omega)
              have hs30 : ¬ (z3 = z1) := by rw [hz3, hz1]; exact hc29
              have hc31 : ¬ ((i2 &&& (7 : Int32)) = (i1 &&& (7 : Int32))) := (fun e => by have := congrArg Int32.toInt e; have : ¬ ((i1 &&& (7 : Int32))).toInt = ((i2 &&& (7 : Int32))).toInt := fun e => hk19 (Int32.toInt_inj.mp e); have := c_and i2 (7 : Int32) (by decide); have := (by decide : ((7 : Int32)).toInt = 7); have := c_and i1 (7 : Int32) (by decide); omega)
              have hs32 : ¬ (z3 = z2) := by rw [hz3, hz2]; exact hc31
              obtain ⟨_, Tr16, Lr16, Xr16, hQr16, str16⟩ := ocallV Xr15 hx hZ zm10 zm10 hown (ww hw 86 rfl) (ww hw 87 rfl) (notFace_of_selects (args := #[]) (mvT hZ (ww hw 89 rfl))) (ww hw 89 rfl) (ww hw 88 rfl) (by decide) (ww hw 90 rfl) (ww hw 13 rfl) er15 f34 (rm11_40 l Z a0 hw [] br4 u3 b1 z3 k1 z1 z2 Tr8.heap n0 Z_5 f35 f38 f39 f33 hs12 hs14 hs30 hs32) (st := [(.ref u3), (.ref br4)]) rfl 0 rfl (by decide) (pc := 228) (Ls := (lc15 i0 i1 i2 i3 z1 z2 z3 0 1 1 u1 u2 u3 br4 2 0)) hml rfl (lenOf pd_6 rfl) at_228 hby
              obtain ⟨rfl, Nr16q, er16⟩ := hQr16
              have N15 := Fr.app N14 Nr16q
              refine own_go (U' := Tr16.setTop (mkF m 233 (lc15 i0 i1 i2 i3 z1 z2 z3 0 1 1 u1 u2 u3 br4 2 0) [(.int 0), (.int 0)])) (fun t k => oicN Xr15 hx hby at_221 (by decide) (oaload Xr15 hx hby at_224 rfl rfl (oaload Xr15 hx hby at_226 rfl rfl (str16 _ (oiload Xr16 hx hby at_231 rfl k))))) ?_
              refine own_go (U' := Tr16.setTop (mkF m 241 (lc15 i0 i1 i2 i3 z1 z2 z3 0 1 1 u1 u2 u3 br4 2 0) [(.int 1)])) (fun t k => oicN Xr16 hx hby at_233 (by decide) (oiconst Xr16 hx hby at_236 (ogoto (pc := 237) Xr16 hx hby at_237 241 (by decide) k))) ?_
              obtain ⟨fs, hr, hrun, hended, hW, hsame⟩ := Xr16.leave (v := some (.int 1)) (fun h => by rw [Bd.returns] at h; cases h)
              refine own_out ⟨_, _, ?_, hrun, hended, _, _, rfl, ?_, ⟨_, rfl⟩, hW, hsame.mono (by decide) (by decide)⟩
              · exact retN Xr16 hx (t := .boolean) Bd.returns (by simp) (hb hby at_241) hr
              · exact ⟨rfl, N15⟩
  · have hv41 : (i3 &&& (1 : Int32)) = (1 : Int32) := hk1
    rw [hv41]
    refine own_go (U' := s₁.setTop (mkF m 34 (lc3 i0 i1 i2 i3 z1 z2 z3 1) [(.int (i3 &&& (2 : Int32)))])) (fun t k => oifN X0 hx hby at_21 (by decide) (oiconst X0 hx hby at_24 (ogoto (pc := 25) X0 hx hby at_25 29 (by decide) (oistore X0 hx hby at_29 (lc3 i0 i1 i2 i3 z1 z2 z3 1) rfl (oiloadN X0 hx hby at_31 rfl (oiconst X0 hx hby at_32 (oiand X0 hx hby at_33 k))))))) ?_
    by_cases hk21 : (i3 &&& (2 : Int32)) = (0 : Int32)
    · have hc1 : (i3 &&& (2 : Int32)) = (0 : Int32) := hk21
      refine own_go (U' := s₁.setTop (mkF m 47 (lc4 i0 i1 i2 i3 z1 z2 z3 1 0) [(.int (i3 &&& (4 : Int32)))])) (fun t k => oifY (pc := 34) X0 hx hby at_34 41 ((if0 _ _).trans (teq hc1).1) (by decide) (oiconst X0 hx hby at_41 (oistore X0 hx hby at_42 (lc4 i0 i1 i2 i3 z1 z2 z3 1 0) rfl (oiloadN X0 hx hby at_44 rfl (oiconst X0 hx hby at_45 (oiand X0 hx hby at_46 k)))))) ?_
      by_cases hk22 : (i3 &&& (4 : Int32)) = (0 : Int32)
      · obtain ⟨_, Tr1, Lr1, Xr1, hQr1, str1⟩ := ocallS X0 hx hZ zm0 hown (ww hw 0 rfl) (ww hw 1 rfl) (by decide) (ww hw 3 rfl) (ww hw 2 rfl) e0 (mg1_8 l Z a0 hw [] z1 w0 w4 w2 w1 w5 w6 w7 w8 h0 n0 Z0 S0 S8 S4 S2 S10 S12 S14 S16) (st := [(.int z1)]) rfl 0 rfl (by decide) (pc := 59) (Ls := (lc5 i0 i1 i2 i3 z1 z2 z3 1 0 0)) hml rfl (lenOf pd_0 rfl) at_59 hby
        obtain ⟨rfl, Nr1q, er1⟩ := hQr1
        have hc2 : (i3 &&& (4 : Int32)) = (0 : Int32) := hk22
        refine own_go (U' := Tr1.setTop (mkF m 62 (lc5 i0 i1 i2 i3 z1 z2 z3 1 0 0) [(.ref (own_pick z1 w0 w4 w2 w1 w5 w6 w7 w8))])) (fun t k => oifY (pc := 47) X0 hx hby at_47 54 ((if0 _ _).trans (teq hc2).1) (by decide) (oiconst X0 hx hby at_54 (oistore X0 hx hby at_55 (lc5 i0 i1 i2 i3 z1 z2 z3 1 0 0) rfl (oiload X0 hx hby at_57 rfl (str1 _ k))))) ?_
        obtain ⟨u1, hu1⟩ : ∃ z, z = (own_pick z1 w0 w4 w2 w1 w5 w6 w7 w8) := ⟨_, rfl⟩
        rw [← hu1]
        have f1 : Exa Z h0 u1 zs0 := by rw [hu1]; exact own_pick_E S1 S9 S5 S3 S11 S13 S15 S17
        have hc3 : ¬ ((i0 &&& (7 : Int32)) < (0 : Int32)) := (fun e => by have := Int32.lt_iff_toInt_lt.mp e; have := c_and i0 (7 : Int32) (by decide); have := (by decide : ((7 : Int32)).toInt = 7); have := (by decide : ((0 : Int32)).toInt = 0); omega)
        have hs4 : ¬ (z1 < (0 : Int32)) := by rw [hz1]; exact hc3
        have hc5 : (i0 &&& (7 : Int32)) < (8 : Int32) := (Int32.lt_iff_toInt_lt.mpr (by have := c_and i0 (7 : Int32) (by decide); have := (by decide : ((7 : Int32)).toInt = 7); have := (by decide : ((8 : Int32)).toInt = 8); omega))
        have hs6 : z1 < (8 : Int32) := by rw [hz1]; exact hc5
        have f2 : Fld Z h0 u1 zs26 "ordinal" "I" (.int z1) := by rw [hu1]; exact own_pick_O S19 S24 S20 S18 S21 S25 S23 S22 hs4 hs6
        have N1 := Fr.app N0 Nr1q
        obtain ⟨_, Tr2, Lr2, Xr2, hQr2, str2⟩ := ocallS Xr1 hx hZ zm0 hown (ww hw 0 rfl) (ww hw 1 rfl) (by decide) (ww hw 3 rfl) (ww hw 2 rfl) er1 (mg1_8 l Z a0 hw [] z2 w0 w4 w2 w1 w5 w6 w7 w8 h0 n0 Z0 S0 S8 S4 S2 S10 S12 S14 S16) (st := [(.int z2)]) rfl 0 rfl (by decide) (pc := 66) (Ls := (lc7 i0 i1 i2 i3 z1 z2 z3 1 0 0 u1)) hml rfl (lenOf pd_0 rfl) at_66 hby
        obtain ⟨rfl, Nr2q, er2⟩ := hQr2
        refine own_go (U' := Tr2.setTop (mkF m 69 (lc7 i0 i1 i2 i3 z1 z2 z3 1 0 0 u1) [(.ref (own_pick z2 w0 w4 w2 w1 w5 w6 w7 w8))])) (fun t k => oastore Xr1 hx hby at_62 (lc7 i0 i1 i2 i3 z1 z2 z3 1 0 0 u1) rfl rfl (oiload Xr1 hx hby at_64 rfl (str2 _ k))) ?_
        obtain ⟨u2, hu2⟩ : ∃ z, z = (own_pick z2 w0 w4 w2 w1 w5 w6 w7 w8) := ⟨_, rfl⟩
        rw [← hu2]
        have f3 : Exa Z h0 u2 zs0 := by rw [hu2]; exact own_pick_E S1 S9 S5 S3 S11 S13 S15 S17
        have hc7 : ¬ ((i1 &&& (7 : Int32)) < (0 : Int32)) := (fun e => by have := Int32.lt_iff_toInt_lt.mp e; have := c_and i1 (7 : Int32) (by decide); have := (by decide : ((7 : Int32)).toInt = 7); have := (by decide : ((0 : Int32)).toInt = 0); omega)
        have hs8 : ¬ (z2 < (0 : Int32)) := by rw [hz2]; exact hc7
        have hc9 : (i1 &&& (7 : Int32)) < (8 : Int32) := (Int32.lt_iff_toInt_lt.mpr (by have := c_and i1 (7 : Int32) (by decide); have := (by decide : ((7 : Int32)).toInt = 7); have := (by decide : ((8 : Int32)).toInt = 8); omega))
        have hs10 : z2 < (8 : Int32) := by rw [hz2]; exact hc9
        have f4 : Fld Z h0 u2 zs26 "ordinal" "I" (.int z2) := by rw [hu2]; exact own_pick_O S19 S24 S20 S18 S21 S25 S23 S22 hs8 hs10
        have N2 := Fr.app N1 Nr2q
        obtain ⟨_, Tr3, Lr3, Xr3, hQr3, str3⟩ := ocallS Xr2 hx hZ zm0 hown (ww hw 0 rfl) (ww hw 1 rfl) (by decide) (ww hw 3 rfl) (ww hw 2 rfl) er2 (mg1_8 l Z a0 hw [] z3 w0 w4 w2 w1 w5 w6 w7 w8 h0 n0 Z0 S0 S8 S4 S2 S10 S12 S14 S16) (st := [(.int z3)]) rfl 0 rfl (by decide) (pc := 73) (Ls := (lc8 i0 i1 i2 i3 z1 z2 z3 1 0 0 u1 u2)) hml rfl (lenOf pd_0 rfl) at_73 hby
        obtain ⟨rfl, Nr3q, er3⟩ := hQr3
        refine own_go (U' := Tr3.setTop (mkF m 76 (lc8 i0 i1 i2 i3 z1 z2 z3 1 0 0 u1 u2) [(.ref (own_pick z3 w0 w4 w2 w1 w5 w6 w7 w8))])) (fun t k => oastore Xr2 hx hby at_69 (lc8 i0 i1 i2 i3 z1 z2 z3 1 0 0 u1 u2) rfl rfl (oiload Xr2 hx hby at_71 rfl (str3 _ k))) ?_
        obtain ⟨u3, hu3⟩ : ∃ z, z = (own_pick z3 w0 w4 w2 w1 w5 w6 w7 w8) := ⟨_, rfl⟩
        rw [← hu3]
        have f5 : Exa Z h0 u3 zs0 := by rw [hu3]; exact own_pick_E S1 S9 S5 S3 S11 S13 S15 S17
        have hc11 : ¬ ((i2 &&& (7 : Int32)) < (0 : Int32)) := (fun e => by have := Int32.lt_iff_toInt_lt.mp e; have := c_and i2 (7 : Int32) (by decide); have := (by decide : ((7 : Int32)).toInt = 7); have := (by decide : ((0 : Int32)).toInt = 0); omega)
        have hs12 : ¬ (z3 < (0 : Int32)) := by rw [hz3]; exact hc11
        have hc13 : (i2 &&& (7 : Int32)) < (8 : Int32) := (Int32.lt_iff_toInt_lt.mpr (by have := c_and i2 (7 : Int32) (by decide); have := (by decide : ((7 : Int32)).toInt = 7); have := (by decide : ((8 : Int32)).toInt = 8); omega))
        have hs14 : z3 < (8 : Int32) := by rw [hz3]; exact hc13
        have f6 : Fld Z h0 u3 zs26 "ordinal" "I" (.int z3) := by rw [hu3]; exact own_pick_O S19 S24 S20 S18 S21 S25 S23 S22 hs12 hs14
        have N3 := Fr.app N2 Nr3q
        obtain ⟨Tr4, hr4, Xr4, er4, Er4, Ar4, Dr4, -, str4⟩ := newO Xr3 hx hZ hown (ww hw 11 rfl) (ww hw 12 rfl) (ww hw 13 rfl) er3 (g := (mkF m 78 (lc9 i0 i1 i2 i3 z1 z2 z3 1 0 0 u1 u2 u3) [])) rfl (hb hby at_78) (by decide) (by decide)
        obtain ⟨br4, gr4⟩ : ∃ z, z = h0.size := ⟨_, rfl⟩
        rw [← gr4] at Ar4 Dr4 str4
        have f7 : Fld Z hr4 br4 zs22 "counts" "[I" .null := Dr4 (Or.inr (ww hw 42 rfl)) (ty := (.array .int)) (by decide)
        have f8 : Fld Z hr4 br4 zs22 zs23 zs24 .null := Dr4 (Or.inr (ww hw 68 rfl)) (ty := (.object zs25)) (by decide)
        have f9 : Sta Z hr4 zs0 "$VALUES" zs12 (.ref w3) := (Sta.ext Er4 S6)
        have f10 : Arv Z hr4 w3 kl0 (.object zs0) (8 : Int32) [(.ref w0), (.ref w4), (.ref w2), (.ref w1), (.ref w5), (.ref w6), (.ref w7), (.ref w8)] .null := (S30.ext Er4)
        have f11 : Exa Z hr4 w3 zs12 := (Exa.ext Er4 S7)
        have g1 : n0 ≤ br4 := Nat.le_trans Z0 (Nat.le_of_eq gr4.symm)
        have f12 : Sta Z hr4 zs17 zs21 zs19 (.ref w10) := (Sta.ext Er4 S28)
        have Z_1 : n0 ≤ hr4.size := Nat.le_trans Z0 Er4.1
        obtain ⟨_, Tr5, Lr5, Xr5, hQr5, str5⟩ := ocallI Xr4 hx hZ zm5 rfl hown (ww hw 14 rfl) (ww hw 15 rfl) (by decide) (ww hw 16 rfl) (ww hw 13 rfl) er4 (rm2_13 l Z a0 hw [] br4 w3 w0 w4 w2 w1 w5 w6 w7 w8 kl0 w10 hr4 n0 Z_1 f9 f10 f11 f7 f8 Ar4 g1 f12) (st := [(.ref br4), (.ref br4)]) rfl 1 rfl (by decide) (pc := 82) (Ls := (lc9 i0 i1 i2 i3 z1 z2 z3 1 0 0 u1 u2 u3)) hml rfl (lenOf pd_2 rfl) at_82 hby
        obtain ⟨b1, b2, k1, rfl, Nr5q, Kr5, sz1, sz2, ne1, f13, f14, f15, f16, f17, f18, f19⟩ := hQr5
        have N4 := Fr.app N3 Nr5q
        have f20 : Exa Z Tr5.heap br4 zs22 := (Ar4.keep Kr5)
        have f21 : Exa Z Tr5.heap u2 zs0 := ((Exa.ext Er4 f3).keep Kr5)
        have ne2 : u2 ≠ br4 := Nat.ne_of_lt (Nat.lt_of_lt_of_le (f4.lt) (Nat.le_of_eq gr4.symm))
        have f22 : Fld Z Tr5.heap u2 zs26 "ordinal" "I" (.int z2) := ((Fld.ext Er4 f4).keep Kr5 (ninS ne2 nin0))
        have g2 : n0 ≤ b1 := Nat.le_trans Z_1 sz1
        have Z_2 : n0 ≤ Tr5.heap.size := Nat.le_trans Z_1 Kr5.1
        obtain ⟨_, Tr6, Lr6, Xr6, hQr6, str6⟩ := ocallV Xr5 hx hZ zm7 zm7 hown (ww hw 69 rfl) (ww hw 70 rfl) (notFace_of_selects (args := #[]) (mvT hZ (ww hw 72 rfl))) (ww hw 72 rfl) (ww hw 71 rfl) (by decide) (ww hw 73 rfl) (ww hw 13 rfl) rfl f20 (rm8_42 l Z a0 hw [] br4 u2 b1 z2 k1 Tr5.heap n0 Z_2 f13 f21 f22 f16 hs8 hs10 g2) (st := [(.int 1), (.ref u2), (.ref br4)]) rfl 0 rfl (by decide) (pc := 93) (Ls := (lc12 i0 i1 i2 i3 z1 z2 z3 1 0 0 u1 u2 u3 br4)) hml rfl (lenOf pd_4 rfl) at_93 hby
        obtain ⟨rfl, Nr6q, Kr6, f23⟩ := hQr6
        have N5 := Fr.app N4 Nr6q
        have f24 : Exa Z Tr6.heap br4 zs22 := (f20.keep Kr6)
        have ne3 : br4 ≠ b1 := Nat.ne_of_lt (Nat.lt_of_lt_of_le (f7.lt) sz1)
        have f25 : Fld Z Tr6.heap br4 zs22 "counts" "[I" (.ref b1) := (f13.keep Kr6 (ninS ne3 nin0))
        have f26 : Exa Z Tr6.heap u1 zs0 := (((Exa.ext Er4 f1).keep Kr5).keep Kr6)
        have ne4 : u1 ≠ br4 := Nat.ne_of_lt (Nat.lt_of_lt_of_le (f2.lt) (Nat.le_of_eq gr4.symm))
        have ne5 : u1 ≠ b1 := Nat.ne_of_lt (Nat.lt_of_lt_of_le (Nat.lt_of_lt_of_le (f2.lt) Er4.1) sz1)
        have f27 : Fld Z Tr6.heap u1 zs26 "ordinal" "I" (.int z1) := (((Fld.ext Er4 f2).keep Kr5 (ninS ne4 nin0)).keep Kr6 (ninS ne5 nin0))
        have Z_3 : n0 ≤ Tr6.heap.size := Nat.le_trans Z_2 Kr6.1
        by_cases hk23 : (i0 &&& (7 : Int32)) = (i1 &&& (7 : Int32))
        · have hc15 : (i0 &&& (7 : Int32)) = (i1 &&& (7 : Int32)) := hk23
          have hs16 : z1 = z2 := by rw [hz2, hz1]; exact hc15
          obtain ⟨_, Tr7, Lr7, Xr7, hQr7, str7⟩ := ocallV Xr6 hx hZ zm7 zm7 hown (ww hw 69 rfl) (ww hw 70 rfl) (notFace_of_selects (args := #[]) (mvT hZ (ww hw 72 rfl))) (ww hw 72 rfl) (ww hw 71 rfl) (by decide) (ww hw 73 rfl) (ww hw 13 rfl) rfl f24 (rm8_43 l Z a0 hw [] br4 u1 b1 z1 k1 z2 Tr6.heap n0 Z_3 f25 f26 f27 f23 hs4 hs6 hs16 g2) (st := [(.int 0), (.ref u1), (.ref br4)]) rfl 0 rfl (by decide) (pc := 102) (Ls := (lc12 i0 i1 i2 i3 z1 z2 z3 1 0 0 u1 u2 u3 br4)) hml rfl (lenOf pd_4 rfl) at_102 hby
          obtain ⟨rfl, Nr7q, Kr7, f28⟩ := hQr7
          have N6 := Fr.app N5 Nr7q
          have f29 : Exa Z Tr7.heap br4 zs22 := (f24.keep Kr7)
          have f30 : Fld Z Tr7.heap br4 zs22 "counts" "[I" (.ref b1) := (f25.keep Kr7 (ninS ne3 nin0))
          have f31 : Exa Z Tr7.heap u1 zs0 := (f26.keep Kr7)
          have f32 : Fld Z Tr7.heap u1 zs26 "ordinal" "I" (.int z1) := (f27.keep Kr7 (ninS ne5 nin0))
          have Z_4 : n0 ≤ Tr7.heap.size := Nat.le_trans Z_3 Kr7.1
          obtain ⟨_, Tr8, Lr8, Xr8, hQr8, str8⟩ := ocallV Xr7 hx hZ zm7 zm7 hown (ww hw 69 rfl) (ww hw 70 rfl) (notFace_of_selects (args := #[]) (mvT hZ (ww hw 72 rfl))) (ww hw 72 rfl) (ww hw 71 rfl) (by decide) (ww hw 73 rfl) (ww hw 13 rfl) rfl f29 (rm8_44 l Z a0 hw [] br4 u1 b1 z1 k1 z2 Tr7.heap n0 Z_4 f30 f31 f32 f28 hs4 hs6 g2) (st := [(.int 0), (.ref u1), (.ref br4)]) rfl 0 rfl (by decide) (pc := 111) (Ls := (lc12 i0 i1 i2 i3 z1 z2 z3 1 0 0 u1 u2 u3 br4)) hml rfl (lenOf pd_4 rfl) at_111 hby
          obtain ⟨rfl, Nr8q, Kr8, f33⟩ := hQr8
          have N7 := Fr.app N6 Nr8q
          refine own_go (U' := Tr8.setTop (mkF m 118 (lc12 i0 i1 i2 i3 z1 z2 z3 1 0 0 u1 u2 u3 br4) [(.int z1), (.int z2)])) (fun t k => oastore Xr3 hx hby at_76 (lc9 i0 i1 i2 i3 z1 z2 z3 1 0 0 u1 u2 u3) rfl rfl (str4 _ (odup Xr4 hx hby at_81 rfl (str5 _ (oastore Xr5 hx hby at_85 (lc12 i0 i1 i2 i3 z1 z2 z3 1 0 0 u1 u2 u3 br4) rfl rfl (oaload Xr5 hx hby at_87 rfl rfl (oaload Xr5 hx hby at_89 rfl rfl (oiload Xr5 hx hby at_91 rfl (str6 _ (oaload Xr6 hx hby at_96 rfl rfl (oaload Xr6 hx hby at_98 rfl rfl (oiload Xr6 hx hby at_100 rfl (str7 _ (oaload Xr7 hx hby at_105 rfl rfl (oaload Xr7 hx hby at_107 rfl rfl (oiload Xr7 hx hby at_109 rfl (str8 _ (oiload Xr8 hx hby at_114 rfl (oiload Xr8 hx hby at_116 rfl k))))))))))))))))))) ?_
          have hc17 : (i1 &&& (7 : Int32)) = (i0 &&& (7 : Int32)) := (Int32.toInt_inj.mp (by have := congrArg Int32.toInt hk23; have := c_and i1 (7 : Int32) (by decide); have := (by decide : ((7 : Int32)).toInt = 7); have := c_and i0 (7 : Int32) (by decide); omega))
          have hs18 : z2 = z1 := by rw [hz2, hz1]; exact hc17
          refine own_go (U' := Tr8.setTop (mkF m 123 (lc12 i0 i1 i2 i3 z1 z2 z3 1 0 0 u1 u2 u3 br4) [(.int 1)])) (fun t k => oicN Xr8 hx hby at_118 (teq hs18).2 (oiload Xr8 hx hby at_121 rfl k)) ?_
          have Z_5 : n0 ≤ Tr8.heap.size := Nat.le_trans Z_4 Kr8.1
          obtain ⟨_, Tr9, Lr9, Xr9, hQr9, str9⟩ := ocallS Xr8 hx hZ zm9 hown (ww hw 83 rfl) (ww hw 84 rfl) (by decide) (ww hw 85 rfl) (ww hw 2 rfl) rfl (rm10_25 l Z a0 hw []  Tr8.heap n0 Z_5 ) (st := [(.int 1)]) rfl 0 rfl (by decide) (pc := 131) (Ls := (lc12 i0 i1 i2 i3 z1 z2 z3 1 0 0 u1 u2 u3 br4)) hml rfl (lenOf pd_5 rfl) at_131 hby
          obtain ⟨rfl, Nr9q, er9⟩ := hQr9
          have N8 := Fr.app N7 Nr9q
          obtain ⟨_, Tr10, Lr10, Xr10, hQr10, str10⟩ := ocallS Xr9 hx hZ zm9 hown (ww hw 83 rfl) (ww hw 84 rfl) (by decide) (ww hw 85 rfl) (ww hw 2 rfl) er9 (rm10_18 l Z a0 hw []  Tr8.heap n0 Z_5 ) (st := [(.int 0), (.int 1)]) rfl 1 rfl (by decide) (pc := 136) (Ls := (lc12 i0 i1 i2 i3 z1 z2 z3 1 0 0 u1 u2 u3 br4)) hml rfl (lenOf pd_5 rfl) at_136 hby
          obtain ⟨rfl, Nr10q, er10⟩ := hQr10
          have N9 := Fr.app N8 Nr10q
          obtain ⟨_, Tr11, Lr11, Xr11, hQr11, str11⟩ := ocallS Xr10 hx hZ zm9 hown (ww hw 83 rfl) (ww hw 84 rfl) (by decide) (ww hw 85 rfl) (ww hw 2 rfl) er10 (rm10_18 l Z a0 hw []  Tr8.heap n0 Z_5 ) (st := [(.int 0), (.int 1)]) rfl 1 rfl (by decide) (pc := 142) (Ls := (lc12 i0 i1 i2 i3 z1 z2 z3 1 0 0 u1 u2 u3 br4)) hml rfl (lenOf pd_5 rfl) at_142 hby
          obtain ⟨rfl, Nr11q, er11⟩ := hQr11
          have N10 := Fr.app N9 Nr11q
          refine own_go (U' := Tr11.setTop (mkF m 152 (lc14 i0 i1 i2 i3 z1 z2 z3 1 0 0 u1 u2 u3 br4 1) [(.int z3), (.int z2)])) (fun t k => oifN Xr8 hx hby at_123 (by decide) (oiconst Xr8 hx hby at_126 (ogoto (pc := 127) Xr8 hx hby at_127 131 (by decide) (str9 _ (oiload Xr9 hx hby at_134 rfl (str10 _ (oiadd Xr10 hx hby at_139 (oiload Xr10 hx hby at_140 rfl (str11 _ (oiadd Xr11 hx hby at_145 (oistore Xr11 hx hby at_146 (lc14 i0 i1 i2 i3 z1 z2 z3 1 0 0 u1 u2 u3 br4 1) rfl (oiload Xr11 hx hby at_148 rfl (oiload Xr11 hx hby at_150 rfl k))))))))))))) ?_
          by_cases hk24 : (i1 &&& (7 : Int32)) = (i2 &&& (7 : Int32))
          · have hc19 : (i1 &&& (7 : Int32)) = (i2 &&& (7 : Int32)) := hk24
            have hs20 : z2 = z3 := by rw [hz3, hz2]; exact hc19
            refine own_go (U' := Tr11.setTop (mkF m 157 (lc14 i0 i1 i2 i3 z1 z2 z3 1 0 0 u1 u2 u3 br4 1) [(.int 1)])) (fun t k => oicN Xr11 hx hby at_152 (teq hs20).2 (oiload Xr11 hx hby at_155 rfl k)) ?_
            obtain ⟨_, Tr12, Lr12, Xr12, hQr12, str12⟩ := ocallS Xr11 hx hZ zm9 hown (ww hw 83 rfl) (ww hw 84 rfl) (by decide) (ww hw 85 rfl) (ww hw 2 rfl) er11 (rm10_25 l Z a0 hw []  Tr8.heap n0 Z_5 ) (st := [(.int 1)]) rfl 0 rfl (by decide) (pc := 165) (Ls := (lc14 i0 i1 i2 i3 z1 z2 z3 1 0 0 u1 u2 u3 br4 1)) hml rfl (lenOf pd_5 rfl) at_165 hby
            obtain ⟨rfl, Nr12q, er12⟩ := hQr12
            have N11 := Fr.app N10 Nr12q
            refine own_go (U' := Tr12.setTop (mkF m 172 (lc14 i0 i1 i2 i3 z1 z2 z3 1 0 0 u1 u2 u3 br4 1) [(.int z3), (.int z1), (.int 1)])) (fun t k => oifN Xr11 hx hby at_157 (by decide) (oiconst Xr11 hx hby at_160 (ogoto (pc := 161) Xr11 hx hby at_161 165 (by decide) (str12 _ (oiload Xr12 hx hby at_168 rfl (oiload Xr12 hx hby at_170 rfl k)))))) ?_
            have hc21 : (i0 &&& (7 : Int32)) = (i2 &&& (7 : Int32)) := (Int32.toInt_inj.mp (by have := congrArg Int32.toInt hk23; have := congrArg Int32.toInt hk24; have := c_and i0 (7 : Int32) (by decide); have := (by decide : ((7 : Int32)).toInt = 7); have := c_and i2 (7 : Int32) (by decide); have := c_and i1 (7 : Int32) (by decide); omega))
            have hs22 : z1 = z3 := by rw [hz3, hz1]; exact hc21
            refine own_go (U' := Tr12.setTop (mkF m 177 (lc14 i0 i1 i2 i3 z1 z2 z3 1 0 0 u1 u2 u3 br4 1) [(.int 0), (.int 1)])) (fun t k => oicN Xr12 hx hby at_172 (teq hs22).2 (oiload Xr12 hx hby at_175 rfl k)) ?_
            obtain ⟨_, Tr13, Lr13, Xr13, hQr13, str13⟩ := ocallS Xr12 hx hZ zm9 hown (ww hw 83 rfl) (ww hw 84 rfl) (by decide) (ww hw 85 rfl) (ww hw 2 rfl) er12 (rm10_18 l Z a0 hw []  Tr8.heap n0 Z_5 ) (st := [(.int 0), (.int 1)]) rfl 1 rfl (by decide) (pc := 185) (Ls := (lc14 i0 i1 i2 i3 z1 z2 z3 1 0 0 u1 u2 u3 br4 1)) hml rfl (lenOf pd_5 rfl) at_185 hby
            obtain ⟨rfl, Nr13q, er13⟩ := hQr13
            have N12 := Fr.app N11 Nr13q
            refine own_go (U' := Tr13.setTop (mkF m 193 (lc14 i0 i1 i2 i3 z1 z2 z3 1 0 0 u1 u2 u3 br4 1) [(.int z3), (.int z1), (.int 1)])) (fun t k => oifY (pc := 177) Xr12 hx hby at_177 184 (by decide) (by decide) (oiconst Xr12 hx hby at_184 (str13 _ (oiadd Xr13 hx hby at_188 (oiload Xr13 hx hby at_189 rfl (oiload Xr13 hx hby at_191 rfl k)))))) ?_
            refine own_go (U' := Tr13.setTop (mkF m 198 (lc14 i0 i1 i2 i3 z1 z2 z3 1 0 0 u1 u2 u3 br4 1) [(.int 0), (.int 1)])) (fun t k => oicN Xr13 hx hby at_193 (teq hs22).2 (oiload Xr13 hx hby at_196 rfl k)) ?_
            obtain ⟨_, Tr14, Lr14, Xr14, hQr14, str14⟩ := ocallS Xr13 hx hZ zm9 hown (ww hw 83 rfl) (ww hw 84 rfl) (by decide) (ww hw 85 rfl) (ww hw 2 rfl) er13 (rm10_18 l Z a0 hw []  Tr8.heap n0 Z_5 ) (st := [(.int 0), (.int 1)]) rfl 1 rfl (by decide) (pc := 206) (Ls := (lc14 i0 i1 i2 i3 z1 z2 z3 1 0 0 u1 u2 u3 br4 1)) hml rfl (lenOf pd_5 rfl) at_206 hby
            obtain ⟨rfl, Nr14q, er14⟩ := hQr14
            have N13 := Fr.app N12 Nr14q
            have f34 : Exa Z Tr8.heap br4 zs22 := (f29.keep Kr8)
            have f35 : Fld Z Tr8.heap br4 zs22 "counts" "[I" (.ref b1) := (f30.keep Kr8 (ninS ne3 nin0))
            have f36 : Exa Z Tr8.heap u1 zs0 := (f31.keep Kr8)
            have f37 : Fld Z Tr8.heap u1 zs26 "ordinal" "I" (.int z1) := (f32.keep Kr8 (ninS ne5 nin0))
            obtain ⟨_, Tr15, Lr15, Xr15, hQr15, str15⟩ := ocallV Xr14 hx hZ zm10 zm10 hown (ww hw 86 rfl) (ww hw 87 rfl) (notFace_of_selects (args := #[]) (mvT hZ (ww hw 89 rfl))) (ww hw 89 rfl) (ww hw 88 rfl) (by decide) (ww hw 90 rfl) (ww hw 13 rfl) er14 f34 (rm11_45 l Z a0 hw [] br4 u1 b1 z1 k1 z2 Tr8.heap n0 Z_5 f35 f36 f37 f33 hs4 hs6) (st := [(.ref u1), (.ref br4)]) rfl 0 rfl (by decide) (pc := 216) (Ls := (lc15 i0 i1 i2 i3 z1 z2 z3 1 0 0 u1 u2 u3 br4 1 1)) hml rfl (lenOf pd_6 rfl) at_216 hby
            obtain ⟨rfl, Nr15q, er15⟩ := hQr15
            have N14 := Fr.app N13 Nr15q
            refine own_go (U' := Tr15.setTop (mkF m 221 (lc15 i0 i1 i2 i3 z1 z2 z3 1 0 0 u1 u2 u3 br4 1 1) [(.int 1), (.int 1)])) (fun t k => oifY (pc := 198) Xr13 hx hby at_198 205 (by decide) (by decide) (oiconst Xr13 hx hby at_205 (str14 _ (oiadd Xr14 hx hby at_209 (oistore Xr14 hx hby at_210 (lc15 i0 i1 i2 i3 z1 z2 z3 1 0 0 u1 u2 u3 br4 1 1) rfl (oaload Xr14 hx hby at_212 rfl rfl (oaload Xr14 hx hby at_214 rfl rfl (str15 _ (oiload Xr15 hx hby at_219 rfl k))))))))) ?_
            have f38 : Exa Z Tr8.heap u3 zs0 := (((((Exa.ext Er4 f5).keep Kr5).keep Kr6).keep Kr7).keep Kr8)
            have ne6 : u3 ≠ br4 := Nat.ne_of_lt (Nat.lt_of_lt_of_le (f6.lt) (Nat.le_of_eq gr4.symm))
            have ne7 : u3 ≠ b1 := Nat.ne_of_lt (Nat.lt_of_lt_of_le (Nat.lt_of_lt_of_le (f6.lt) Er4.1) sz1)
            have f39 : Fld Z Tr8.heap u3 zs26 "ordinal" "I" (.int z3) := (((((Fld.ext Er4 f6).keep Kr5 (ninS ne6 nin0)).keep Kr6 (ninS ne7 nin0)).keep Kr7 (ninS ne7 nin0)).keep Kr8 (ninS ne7 nin0))
            have hc23 : (i2 &&& (7 : Int32)) = (i0 &&& (7 : Int32)) := (Int32.toInt_inj.mp (by have := congrArg Int32.toInt hk23; have := congrArg Int32.toInt hk24; have := c_and i2 (7 : Int32) (by decide); have := (by decide : ((7 : Int32)).toInt = 7); have := c_and i0 (7 : Int32) (by decide); have := c_and i1 (7 : Int32) (by decide); omega))
            have hs24 : z3 = z1 := by rw [hz3, hz1]; exact hc23
            obtain ⟨_, Tr16, Lr16, Xr16, hQr16, str16⟩ := ocallV Xr15 hx hZ zm10 zm10 hown (ww hw 86 rfl) (ww hw 87 rfl) (notFace_of_selects (args := #[]) (mvT hZ (ww hw 89 rfl))) (ww hw 89 rfl) (ww hw 88 rfl) (by decide) (ww hw 90 rfl) (ww hw 13 rfl) er15 f34 (rm11_46 l Z a0 hw [] br4 u3 b1 z3 k1 z1 z2 Tr8.heap n0 Z_5 f35 f38 f39 f33 hs12 hs14 hs24) (st := [(.ref u3), (.ref br4)]) rfl 0 rfl (by decide) (pc := 228) (Ls := (lc15 i0 i1 i2 i3 z1 z2 z3 1 0 0 u1 u2 u3 br4 1 1)) hml rfl (lenOf pd_6 rfl) at_228 hby
            obtain ⟨rfl, Nr16q, er16⟩ := hQr16
            have N15 := Fr.app N14 Nr16q
            refine own_go (U' := Tr16.setTop (mkF m 233 (lc15 i0 i1 i2 i3 z1 z2 z3 1 0 0 u1 u2 u3 br4 1 1) [(.int 1), (.int 1)])) (fun t k => oicN Xr15 hx hby at_221 (by decide) (oaload Xr15 hx hby at_224 rfl rfl (oaload Xr15 hx hby at_226 rfl rfl (str16 _ (oiload Xr16 hx hby at_231 rfl k))))) ?_
            refine own_go (U' := Tr16.setTop (mkF m 241 (lc15 i0 i1 i2 i3 z1 z2 z3 1 0 0 u1 u2 u3 br4 1 1) [(.int 1)])) (fun t k => oicN Xr16 hx hby at_233 (by decide) (oiconst Xr16 hx hby at_236 (ogoto (pc := 237) Xr16 hx hby at_237 241 (by decide) k))) ?_
            obtain ⟨fs, hr, hrun, hended, hW, hsame⟩ := Xr16.leave (v := some (.int 1)) (fun h => by rw [Bd.returns] at h; cases h)
            refine own_out ⟨_, _, ?_, hrun, hended, _, _, rfl, ?_, ⟨_, rfl⟩, hW, hsame.mono (by decide) (by decide)⟩
            · exact retN Xr16 hx (t := .boolean) Bd.returns (by simp) (hb hby at_241) hr
            · exact ⟨rfl, N15⟩
          · obtain ⟨_, Tr12, Lr12, Xr12, hQr12, str12⟩ := ocallS Xr11 hx hZ zm9 hown (ww hw 83 rfl) (ww hw 84 rfl) (by decide) (ww hw 85 rfl) (ww hw 2 rfl) er11 (rm10_18 l Z a0 hw []  Tr8.heap n0 Z_5 ) (st := [(.int 0)]) rfl 0 rfl (by decide) (pc := 165) (Ls := (lc14 i0 i1 i2 i3 z1 z2 z3 1 0 0 u1 u2 u3 br4 1)) hml rfl (lenOf pd_5 rfl) at_165 hby
            obtain ⟨rfl, Nr12q, er12⟩ := hQr12
            have N11 := Fr.app N10 Nr12q
            have hc25 : ¬ ((i1 &&& (7 : Int32)) = (i2 &&& (7 : Int32))) := hk24
            have hs26 : ¬ (z2 = z3) := by rw [hz3, hz2]; exact hc25
            refine own_go (U' := Tr12.setTop (mkF m 172 (lc14 i0 i1 i2 i3 z1 z2 z3 1 0 0 u1 u2 u3 br4 1) [(.int z3), (.int z1), (.int 0)])) (fun t k => oicY (pc := 152) Xr11 hx hby at_152 164 (feq hs26).2 (by decide) (oiconst Xr11 hx hby at_164 (str12 _ (oiload Xr12 hx hby at_168 rfl (oiload Xr12 hx hby at_170 rfl k))))) ?_
            obtain ⟨_, Tr13, Lr13, Xr13, hQr13, str13⟩ := ocallS Xr12 hx hZ zm9 hown (ww hw 83 rfl) (ww hw 84 rfl) (by decide) (ww hw 85 rfl) (ww hw 2 rfl) er12 (rm10_18 l Z a0 hw []  Tr8.heap n0 Z_5 ) (st := [(.int 0), (.int 0)]) rfl 1 rfl (by decide) (pc := 185) (Ls := (lc14 i0 i1 i2 i3 z1 z2 z3 1 0 0 u1 u2 u3 br4 1)) hml rfl (lenOf pd_5 rfl) at_185 hby
            obtain ⟨rfl, Nr13q, er13⟩ := hQr13
            have N12 := Fr.app N11 Nr13q
            have hc27 : ¬ ((i0 &&& (7 : Int32)) = (i2 &&& (7 : Int32))) := (fun e => by have := congrArg Int32.toInt e; have := congrArg Int32.toInt hk23; have : ¬ ((i1 &&& (7 : Int32))).toInt = ((i2 &&& (7 : Int32))).toInt := fun e => hk24 (Int32.toInt_inj.mp e); have := c_and i0 (7 : Int32) (by decide); have := (by decide : ((7 : Int32)).toInt = 7); have := c_and i2 (7 : Int32) (by decide); have := c_and i1 (7 : Int32) (by decide); omega)
            have hs28 : ¬ (z1 = z3) := by rw [hz3, hz1]; exact hc27
            refine own_go (U' := Tr13.setTop (mkF m 193 (lc14 i0 i1 i2 i3 z1 z2 z3 1 0 0 u1 u2 u3 br4 1) [(.int z3), (.int z1), (.int 0)])) (fun t k => oicY (pc := 172) Xr12 hx hby at_172 184 (feq hs28).2 (by decide) (oiconst Xr12 hx hby at_184 (str13 _ (oiadd Xr13 hx hby at_188 (oiload Xr13 hx hby at_189 rfl (oiload Xr13 hx hby at_191 rfl k)))))) ?_
            obtain ⟨_, Tr14, Lr14, Xr14, hQr14, str14⟩ := ocallS Xr13 hx hZ zm9 hown (ww hw 83 rfl) (ww hw 84 rfl) (by decide) (ww hw 85 rfl) (ww hw 2 rfl) er13 (rm10_18 l Z a0 hw []  Tr8.heap n0 Z_5 ) (st := [(.int 0), (.int 0)]) rfl 1 rfl (by decide) (pc := 206) (Ls := (lc14 i0 i1 i2 i3 z1 z2 z3 1 0 0 u1 u2 u3 br4 1)) hml rfl (lenOf pd_5 rfl) at_206 hby
            obtain ⟨rfl, Nr14q, er14⟩ := hQr14
            have N13 := Fr.app N12 Nr14q
            have f34 : Exa Z Tr8.heap br4 zs22 := (f29.keep Kr8)
            have f35 : Fld Z Tr8.heap br4 zs22 "counts" "[I" (.ref b1) := (f30.keep Kr8 (ninS ne3 nin0))
            have f36 : Exa Z Tr8.heap u1 zs0 := (f31.keep Kr8)
            have f37 : Fld Z Tr8.heap u1 zs26 "ordinal" "I" (.int z1) := (f32.keep Kr8 (ninS ne5 nin0))
            obtain ⟨_, Tr15, Lr15, Xr15, hQr15, str15⟩ := ocallV Xr14 hx hZ zm10 zm10 hown (ww hw 86 rfl) (ww hw 87 rfl) (notFace_of_selects (args := #[]) (mvT hZ (ww hw 89 rfl))) (ww hw 89 rfl) (ww hw 88 rfl) (by decide) (ww hw 90 rfl) (ww hw 13 rfl) er14 f34 (rm11_45 l Z a0 hw [] br4 u1 b1 z1 k1 z2 Tr8.heap n0 Z_5 f35 f36 f37 f33 hs4 hs6) (st := [(.ref u1), (.ref br4)]) rfl 0 rfl (by decide) (pc := 216) (Ls := (lc15 i0 i1 i2 i3 z1 z2 z3 1 0 0 u1 u2 u3 br4 1 0)) hml rfl (lenOf pd_6 rfl) at_216 hby
            obtain ⟨rfl, Nr15q, er15⟩ := hQr15
            have N14 := Fr.app N13 Nr15q
            refine own_go (U' := Tr15.setTop (mkF m 221 (lc15 i0 i1 i2 i3 z1 z2 z3 1 0 0 u1 u2 u3 br4 1 0) [(.int 1), (.int 1)])) (fun t k => oicY (pc := 193) Xr13 hx hby at_193 205 (feq hs28).2 (by decide) (oiconst Xr13 hx hby at_205 (str14 _ (oiadd Xr14 hx hby at_209 (oistore Xr14 hx hby at_210 (lc15 i0 i1 i2 i3 z1 z2 z3 1 0 0 u1 u2 u3 br4 1 0) rfl (oaload Xr14 hx hby at_212 rfl rfl (oaload Xr14 hx hby at_214 rfl rfl (str15 _ (oiload Xr15 hx hby at_219 rfl k))))))))) ?_
            have f38 : Exa Z Tr8.heap u3 zs0 := (((((Exa.ext Er4 f5).keep Kr5).keep Kr6).keep Kr7).keep Kr8)
            have ne6 : u3 ≠ br4 := Nat.ne_of_lt (Nat.lt_of_lt_of_le (f6.lt) (Nat.le_of_eq gr4.symm))
            have ne7 : u3 ≠ b1 := Nat.ne_of_lt (Nat.lt_of_lt_of_le (Nat.lt_of_lt_of_le (f6.lt) Er4.1) sz1)
            have f39 : Fld Z Tr8.heap u3 zs26 "ordinal" "I" (.int z3) := (((((Fld.ext Er4 f6).keep Kr5 (ninS ne6 nin0)).keep Kr6 (ninS ne7 nin0)).keep Kr7 (ninS ne7 nin0)).keep Kr8 (ninS ne7 nin0))
            have hc29 : ¬ ((i2 &&& (7 : Int32)) = (i0 &&& (7 : Int32))) := (fun e => by have := congrArg Int32.toInt e; have := congrArg Int32.toInt hk23; have : ¬ ((i1 &&& (7 : Int32))).toInt = ((i2 &&& (7 : Int32))).toInt := fun e => hk24 (Int32.toInt_inj.mp e); have := c_and i2 (7 : Int32) (by decide); have := (by decide : ((7 : Int32)).toInt = 7); have := c_and i0 (7 : Int32) (by decide); have := c_and i1 (7 : Int32) (by decide); omega)
            have hs30 : ¬ (z3 = z1) := by rw [hz3, hz1]; exact hc29
            have hc31 : ¬ ((i2 &&& (7 : Int32)) = (i1 &&& (7 : Int32))) := (fun e => by have := congrArg Int32.toInt e; have : ¬ ((i1 &&& (7 : Int32))).toInt = ((i2 &&& (7 : Int32))).toInt := fun e => hk24 (Int32.toInt_inj.mp e); have := c_and i2 (7 : Int32) (by decide); have := (by decide : ((7 : Int32)).toInt = 7); have := c_and i1 (7 : Int32) (by decide); omega)
            have hs32 : ¬ (z3 = z2) := by rw [hz3, hz2]; exact hc31
            obtain ⟨_, Tr16, Lr16, Xr16, hQr16, str16⟩ := ocallV Xr15 hx hZ zm10 zm10 hown (ww hw 86 rfl) (ww hw 87 rfl) (notFace_of_selects (args := #[]) (mvT hZ (ww hw 89 rfl))) (ww hw 89 rfl) (ww hw 88 rfl) (by decide) (ww hw 90 rfl) (ww hw 13 rfl) er15 f34 (rm11_47 l Z a0 hw [] br4 u3 b1 z3 k1 z1 z2 Tr8.heap n0 Z_5 f35 f38 f39 f33 hs12 hs14 hs30 hs32) (st := [(.ref u3), (.ref br4)]) rfl 0 rfl (by decide) (pc := 228) (Ls := (lc15 i0 i1 i2 i3 z1 z2 z3 1 0 0 u1 u2 u3 br4 1 0)) hml rfl (lenOf pd_6 rfl) at_228 hby
            obtain ⟨rfl, Nr16q, er16⟩ := hQr16
            have N15 := Fr.app N14 Nr16q
            refine own_go (U' := Tr16.setTop (mkF m 233 (lc15 i0 i1 i2 i3 z1 z2 z3 1 0 0 u1 u2 u3 br4 1 0) [(.int 0), (.int 0)])) (fun t k => oicN Xr15 hx hby at_221 (by decide) (oaload Xr15 hx hby at_224 rfl rfl (oaload Xr15 hx hby at_226 rfl rfl (str16 _ (oiload Xr16 hx hby at_231 rfl k))))) ?_
            refine own_go (U' := Tr16.setTop (mkF m 241 (lc15 i0 i1 i2 i3 z1 z2 z3 1 0 0 u1 u2 u3 br4 1 0) [(.int 1)])) (fun t k => oicN Xr16 hx hby at_233 (by decide) (oiconst Xr16 hx hby at_236 (ogoto (pc := 237) Xr16 hx hby at_237 241 (by decide) k))) ?_
            obtain ⟨fs, hr, hrun, hended, hW, hsame⟩ := Xr16.leave (v := some (.int 1)) (fun h => by rw [Bd.returns] at h; cases h)
            refine own_out ⟨_, _, ?_, hrun, hended, _, _, rfl, ?_, ⟨_, rfl⟩, hW, hsame.mono (by decide) (by decide)⟩
            · exact retN Xr16 hx (t := .boolean) Bd.returns (by simp) (hb hby at_241) hr
            · exact ⟨rfl, N15⟩
        · have hc33 : ¬ ((i0 &&& (7 : Int32)) = (i1 &&& (7 : Int32))) := hk23
          have hs34 : ¬ (z1 = z2) := by rw [hz2, hz1]; exact hc33
          obtain ⟨_, Tr7, Lr7, Xr7, hQr7, str7⟩ := ocallV Xr6 hx hZ zm7 zm7 hown (ww hw 69 rfl) (ww hw 70 rfl) (notFace_of_selects (args := #[]) (mvT hZ (ww hw 72 rfl))) (ww hw 72 rfl) (ww hw 71 rfl) (by decide) (ww hw 73 rfl) (ww hw 13 rfl) rfl f24 (rm8_48 l Z a0 hw [] br4 u1 b1 z1 k1 z2 Tr6.heap n0 Z_3 f25 f26 f27 f23 hs4 hs6 hs34 g2) (st := [(.int 0), (.ref u1), (.ref br4)]) rfl 0 rfl (by decide) (pc := 102) (Ls := (lc12 i0 i1 i2 i3 z1 z2 z3 1 0 0 u1 u2 u3 br4)) hml rfl (lenOf pd_4 rfl) at_102 hby
          obtain ⟨rfl, Nr7q, Kr7, f28⟩ := hQr7
          have N6 := Fr.app N5 Nr7q
          have f29 : Exa Z Tr7.heap br4 zs22 := (f24.keep Kr7)
          have f30 : Fld Z Tr7.heap br4 zs22 "counts" "[I" (.ref b1) := (f25.keep Kr7 (ninS ne3 nin0))
          have f31 : Exa Z Tr7.heap u1 zs0 := (f26.keep Kr7)
          have f32 : Fld Z Tr7.heap u1 zs26 "ordinal" "I" (.int z1) := (f27.keep Kr7 (ninS ne5 nin0))
          have Z_4 : n0 ≤ Tr7.heap.size := Nat.le_trans Z_3 Kr7.1
          obtain ⟨_, Tr8, Lr8, Xr8, hQr8, str8⟩ := ocallV Xr7 hx hZ zm7 zm7 hown (ww hw 69 rfl) (ww hw 70 rfl) (notFace_of_selects (args := #[]) (mvT hZ (ww hw 72 rfl))) (ww hw 72 rfl) (ww hw 71 rfl) (by decide) (ww hw 73 rfl) (ww hw 13 rfl) rfl f29 (rm8_49 l Z a0 hw [] br4 u1 b1 z1 k1 z2 Tr7.heap n0 Z_4 f30 f31 f32 f28 hs4 hs6 g2) (st := [(.int 0), (.ref u1), (.ref br4)]) rfl 0 rfl (by decide) (pc := 111) (Ls := (lc12 i0 i1 i2 i3 z1 z2 z3 1 0 0 u1 u2 u3 br4)) hml rfl (lenOf pd_4 rfl) at_111 hby
          obtain ⟨rfl, Nr8q, Kr8, f33⟩ := hQr8
          have N7 := Fr.app N6 Nr8q
          refine own_go (U' := Tr8.setTop (mkF m 118 (lc12 i0 i1 i2 i3 z1 z2 z3 1 0 0 u1 u2 u3 br4) [(.int z1), (.int z2)])) (fun t k => oastore Xr3 hx hby at_76 (lc9 i0 i1 i2 i3 z1 z2 z3 1 0 0 u1 u2 u3) rfl rfl (str4 _ (odup Xr4 hx hby at_81 rfl (str5 _ (oastore Xr5 hx hby at_85 (lc12 i0 i1 i2 i3 z1 z2 z3 1 0 0 u1 u2 u3 br4) rfl rfl (oaload Xr5 hx hby at_87 rfl rfl (oaload Xr5 hx hby at_89 rfl rfl (oiload Xr5 hx hby at_91 rfl (str6 _ (oaload Xr6 hx hby at_96 rfl rfl (oaload Xr6 hx hby at_98 rfl rfl (oiload Xr6 hx hby at_100 rfl (str7 _ (oaload Xr7 hx hby at_105 rfl rfl (oaload Xr7 hx hby at_107 rfl rfl (oiload Xr7 hx hby at_109 rfl (str8 _ (oiload Xr8 hx hby at_114 rfl (oiload Xr8 hx hby at_116 rfl k))))))))))))))))))) ?_
          have Z_5 : n0 ≤ Tr8.heap.size := Nat.le_trans Z_4 Kr8.1
          obtain ⟨_, Tr9, Lr9, Xr9, hQr9, str9⟩ := ocallS Xr8 hx hZ zm9 hown (ww hw 83 rfl) (ww hw 84 rfl) (by decide) (ww hw 85 rfl) (ww hw 2 rfl) rfl (rm10_18 l Z a0 hw []  Tr8.heap n0 Z_5 ) (st := [(.int 0)]) rfl 0 rfl (by decide) (pc := 131) (Ls := (lc12 i0 i1 i2 i3 z1 z2 z3 1 0 0 u1 u2 u3 br4)) hml rfl (lenOf pd_5 rfl) at_131 hby
          obtain ⟨rfl, Nr9q, er9⟩ := hQr9
          have N8 := Fr.app N7 Nr9q
          obtain ⟨_, Tr10, Lr10, Xr10, hQr10, str10⟩ := ocallS Xr9 hx hZ zm9 hown (ww hw 83 rfl) (ww hw 84 rfl) (by decide) (ww hw 85 rfl) (ww hw 2 rfl) er9 (rm10_18 l Z a0 hw []  Tr8.heap n0 Z_5 ) (st := [(.int 0), (.int 0)]) rfl 1 rfl (by decide) (pc := 136) (Ls := (lc12 i0 i1 i2 i3 z1 z2 z3 1 0 0 u1 u2 u3 br4)) hml rfl (lenOf pd_5 rfl) at_136 hby
          obtain ⟨rfl, Nr10q, er10⟩ := hQr10
          have N9 := Fr.app N8 Nr10q
          obtain ⟨_, Tr11, Lr11, Xr11, hQr11, str11⟩ := ocallS Xr10 hx hZ zm9 hown (ww hw 83 rfl) (ww hw 84 rfl) (by decide) (ww hw 85 rfl) (ww hw 2 rfl) er10 (rm10_18 l Z a0 hw []  Tr8.heap n0 Z_5 ) (st := [(.int 0), (.int 0)]) rfl 1 rfl (by decide) (pc := 142) (Ls := (lc12 i0 i1 i2 i3 z1 z2 z3 1 0 0 u1 u2 u3 br4)) hml rfl (lenOf pd_5 rfl) at_142 hby
          obtain ⟨rfl, Nr11q, er11⟩ := hQr11
          have N10 := Fr.app N9 Nr11q
          have hc35 : ¬ ((i1 &&& (7 : Int32)) = (i0 &&& (7 : Int32))) := (fun e => by have := congrArg Int32.toInt e; have : ¬ ((i0 &&& (7 : Int32))).toInt = ((i1 &&& (7 : Int32))).toInt := fun e => hk23 (Int32.toInt_inj.mp e); have := c_and i1 (7 : Int32) (by decide); have := (by decide : ((7 : Int32)).toInt = 7); have := c_and i0 (7 : Int32) (by decide); omega)
          have hs36 : ¬ (z2 = z1) := by rw [hz2, hz1]; exact hc35
          refine own_go (U' := Tr11.setTop (mkF m 152 (lc14 i0 i1 i2 i3 z1 z2 z3 1 0 0 u1 u2 u3 br4 0) [(.int z3), (.int z2)])) (fun t k => oicY (pc := 118) Xr8 hx hby at_118 130 (feq hs36).2 (by decide) (oiconst Xr8 hx hby at_130 (str9 _ (oiload Xr9 hx hby at_134 rfl (str10 _ (oiadd Xr10 hx hby at_139 (oiload Xr10 hx hby at_140 rfl (str11 _ (oiadd Xr11 hx hby at_145 (oistore Xr11 hx hby at_146 (lc14 i0 i1 i2 i3 z1 z2 z3 1 0 0 u1 u2 u3 br4 0) rfl (oiload Xr11 hx hby at_148 rfl (oiload Xr11 hx hby at_150 rfl k)))))))))))) ?_
          by_cases hk25 : (i1 &&& (7 : Int32)) = (i2 &&& (7 : Int32))
          · have hc19 : (i1 &&& (7 : Int32)) = (i2 &&& (7 : Int32)) := hk25
            have hs20 : z2 = z3 := by rw [hz3, hz2]; exact hc19
            refine own_go (U' := Tr11.setTop (mkF m 157 (lc14 i0 i1 i2 i3 z1 z2 z3 1 0 0 u1 u2 u3 br4 0) [(.int 1)])) (fun t k => oicN Xr11 hx hby at_152 (teq hs20).2 (oiload Xr11 hx hby at_155 rfl k)) ?_
            obtain ⟨_, Tr12, Lr12, Xr12, hQr12, str12⟩ := ocallS Xr11 hx hZ zm9 hown (ww hw 83 rfl) (ww hw 84 rfl) (by decide) (ww hw 85 rfl) (ww hw 2 rfl) er11 (rm10_25 l Z a0 hw []  Tr8.heap n0 Z_5 ) (st := [(.int 1)]) rfl 0 rfl (by decide) (pc := 165) (Ls := (lc14 i0 i1 i2 i3 z1 z2 z3 1 0 0 u1 u2 u3 br4 0)) hml rfl (lenOf pd_5 rfl) at_165 hby
            obtain ⟨rfl, Nr12q, er12⟩ := hQr12
            have N11 := Fr.app N10 Nr12q
            refine own_go (U' := Tr12.setTop (mkF m 172 (lc14 i0 i1 i2 i3 z1 z2 z3 1 0 0 u1 u2 u3 br4 0) [(.int z3), (.int z1), (.int 1)])) (fun t k => oifN Xr11 hx hby at_157 (by decide) (oiconst Xr11 hx hby at_160 (ogoto (pc := 161) Xr11 hx hby at_161 165 (by decide) (str12 _ (oiload Xr12 hx hby at_168 rfl (oiload Xr12 hx hby at_170 rfl k)))))) ?_
            obtain ⟨_, Tr13, Lr13, Xr13, hQr13, str13⟩ := ocallS Xr12 hx hZ zm9 hown (ww hw 83 rfl) (ww hw 84 rfl) (by decide) (ww hw 85 rfl) (ww hw 2 rfl) er12 (rm10_18 l Z a0 hw []  Tr8.heap n0 Z_5 ) (st := [(.int 0), (.int 1)]) rfl 1 rfl (by decide) (pc := 185) (Ls := (lc14 i0 i1 i2 i3 z1 z2 z3 1 0 0 u1 u2 u3 br4 0)) hml rfl (lenOf pd_5 rfl) at_185 hby
            obtain ⟨rfl, Nr13q, er13⟩ := hQr13
            have N12 := Fr.app N11 Nr13q
            have hc27 : ¬ ((i0 &&& (7 : Int32)) = (i2 &&& (7 : Int32))) := (fun e => by have := congrArg Int32.toInt e; have : ¬ ((i0 &&& (7 : Int32))).toInt = ((i1 &&& (7 : Int32))).toInt := fun e => hk23 (Int32.toInt_inj.mp e); have := congrArg Int32.toInt hk25; have := c_and i0 (7 : Int32) (by decide); have := (by decide : ((7 : Int32)).toInt = 7); have := c_and i2 (7 : Int32) (by decide); have := c_and i1 (7 : Int32) (by decide); omega)
            have hs28 : ¬ (z1 = z3) := by rw [hz3, hz1]; exact hc27
            refine own_go (U' := Tr13.setTop (mkF m 193 (lc14 i0 i1 i2 i3 z1 z2 z3 1 0 0 u1 u2 u3 br4 0) [(.int z3), (.int z1), (.int 1)])) (fun t k => oicY (pc := 172) Xr12 hx hby at_172 184 (feq hs28).2 (by decide) (oiconst Xr12 hx hby at_184 (str13 _ (oiadd Xr13 hx hby at_188 (oiload Xr13 hx hby at_189 rfl (oiload Xr13 hx hby at_191 rfl k)))))) ?_
            obtain ⟨_, Tr14, Lr14, Xr14, hQr14, str14⟩ := ocallS Xr13 hx hZ zm9 hown (ww hw 83 rfl) (ww hw 84 rfl) (by decide) (ww hw 85 rfl) (ww hw 2 rfl) er13 (rm10_18 l Z a0 hw []  Tr8.heap n0 Z_5 ) (st := [(.int 0), (.int 1)]) rfl 1 rfl (by decide) (pc := 206) (Ls := (lc14 i0 i1 i2 i3 z1 z2 z3 1 0 0 u1 u2 u3 br4 0)) hml rfl (lenOf pd_5 rfl) at_206 hby
            obtain ⟨rfl, Nr14q, er14⟩ := hQr14
            have N13 := Fr.app N12 Nr14q
            have f34 : Exa Z Tr8.heap br4 zs22 := (f29.keep Kr8)
            have f35 : Fld Z Tr8.heap br4 zs22 "counts" "[I" (.ref b1) := (f30.keep Kr8 (ninS ne3 nin0))
            have f36 : Exa Z Tr8.heap u1 zs0 := (f31.keep Kr8)
            have f37 : Fld Z Tr8.heap u1 zs26 "ordinal" "I" (.int z1) := (f32.keep Kr8 (ninS ne5 nin0))
            obtain ⟨_, Tr15, Lr15, Xr15, hQr15, str15⟩ := ocallV Xr14 hx hZ zm10 zm10 hown (ww hw 86 rfl) (ww hw 87 rfl) (notFace_of_selects (args := #[]) (mvT hZ (ww hw 89 rfl))) (ww hw 89 rfl) (ww hw 88 rfl) (by decide) (ww hw 90 rfl) (ww hw 13 rfl) er14 f34 (rm11_50 l Z a0 hw [] br4 u1 b1 z1 k1 z2 Tr8.heap n0 Z_5 f35 f36 f37 f33 hs4 hs6) (st := [(.ref u1), (.ref br4)]) rfl 0 rfl (by decide) (pc := 216) (Ls := (lc15 i0 i1 i2 i3 z1 z2 z3 1 0 0 u1 u2 u3 br4 0 1)) hml rfl (lenOf pd_6 rfl) at_216 hby
            obtain ⟨rfl, Nr15q, er15⟩ := hQr15
            have N14 := Fr.app N13 Nr15q
            refine own_go (U' := Tr15.setTop (mkF m 221 (lc15 i0 i1 i2 i3 z1 z2 z3 1 0 0 u1 u2 u3 br4 0 1) [(.int 0), (.int 0)])) (fun t k => oicY (pc := 193) Xr13 hx hby at_193 205 (feq hs28).2 (by decide) (oiconst Xr13 hx hby at_205 (str14 _ (oiadd Xr14 hx hby at_209 (oistore Xr14 hx hby at_210 (lc15 i0 i1 i2 i3 z1 z2 z3 1 0 0 u1 u2 u3 br4 0 1) rfl (oaload Xr14 hx hby at_212 rfl rfl (oaload Xr14 hx hby at_214 rfl rfl (str15 _ (oiload Xr15 hx hby at_219 rfl k))))))))) ?_
            have f38 : Exa Z Tr8.heap u3 zs0 := (((((Exa.ext Er4 f5).keep Kr5).keep Kr6).keep Kr7).keep Kr8)
            have ne6 : u3 ≠ br4 := Nat.ne_of_lt (Nat.lt_of_lt_of_le (f6.lt) (Nat.le_of_eq gr4.symm))
            have ne7 : u3 ≠ b1 := Nat.ne_of_lt (Nat.lt_of_lt_of_le (Nat.lt_of_lt_of_le (f6.lt) Er4.1) sz1)
            have f39 : Fld Z Tr8.heap u3 zs26 "ordinal" "I" (.int z3) := (((((Fld.ext Er4 f6).keep Kr5 (ninS ne6 nin0)).keep Kr6 (ninS ne7 nin0)).keep Kr7 (ninS ne7 nin0)).keep Kr8 (ninS ne7 nin0))
            have hc29 : ¬ ((i2 &&& (7 : Int32)) = (i0 &&& (7 : Int32))) := (fun e => by have := congrArg Int32.toInt e; have : ¬ ((i0 &&& (7 : Int32))).toInt = ((i1 &&& (7 : Int32))).toInt := fun e => hk23 (Int32.toInt_inj.mp e); have := congrArg Int32.toInt hk25; have := c_and i2 (7 : Int32) (by decide); have := (by decide : ((7 : Int32)).toInt = 7); have := c_and i0 (7 : Int32) (by decide); have := c_and i1 (7 : Int32) (by decide); omega)
            have hs30 : ¬ (z3 = z1) := by rw [hz3, hz1]; exact hc29
            have hc37 : (i2 &&& (7 : Int32)) = (i1 &&& (7 : Int32)) := (Int32.toInt_inj.mp (by have := congrArg Int32.toInt hk25; have := c_and i2 (7 : Int32) (by decide); have := (by decide : ((7 : Int32)).toInt = 7); have := c_and i1 (7 : Int32) (by decide); omega))
            have hs38 : z3 = z2 := by rw [hz3, hz2]; exact hc37
            obtain ⟨_, Tr16, Lr16, Xr16, hQr16, str16⟩ := ocallV Xr15 hx hZ zm10 zm10 hown (ww hw 86 rfl) (ww hw 87 rfl) (notFace_of_selects (args := #[]) (mvT hZ (ww hw 89 rfl))) (ww hw 89 rfl) (ww hw 88 rfl) (by decide) (ww hw 90 rfl) (ww hw 13 rfl) er15 f34 (rm11_51 l Z a0 hw [] br4 u3 b1 z3 k1 z1 z2 Tr8.heap n0 Z_5 f35 f38 f39 f33 hs12 hs14 hs30 hs38) (st := [(.ref u3), (.ref br4)]) rfl 0 rfl (by decide) (pc := 228) (Ls := (lc15 i0 i1 i2 i3 z1 z2 z3 1 0 0 u1 u2 u3 br4 0 1)) hml rfl (lenOf pd_6 rfl) at_228 hby
            obtain ⟨rfl, Nr16q, er16⟩ := hQr16
            have N15 := Fr.app N14 Nr16q
            refine own_go (U' := Tr16.setTop (mkF m 233 (lc15 i0 i1 i2 i3 z1 z2 z3 1 0 0 u1 u2 u3 br4 0 1) [(.int 1), (.int 1)])) (fun t k => oicN Xr15 hx hby at_221 (by decide) (oaload Xr15 hx hby at_224 rfl rfl (oaload Xr15 hx hby at_226 rfl rfl (str16 _ (oiload Xr16 hx hby at_231 rfl k))))) ?_
            refine own_go (U' := Tr16.setTop (mkF m 241 (lc15 i0 i1 i2 i3 z1 z2 z3 1 0 0 u1 u2 u3 br4 0 1) [(.int 1)])) (fun t k => oicN Xr16 hx hby at_233 (by decide) (oiconst Xr16 hx hby at_236 (ogoto (pc := 237) Xr16 hx hby at_237 241 (by decide) k))) ?_
            obtain ⟨fs, hr, hrun, hended, hW, hsame⟩ := Xr16.leave (v := some (.int 1)) (fun h => by rw [Bd.returns] at h; cases h)
            refine own_out ⟨_, _, ?_, hrun, hended, _, _, rfl, ?_, ⟨_, rfl⟩, hW, hsame.mono (by decide) (by decide)⟩
            · exact retN Xr16 hx (t := .boolean) Bd.returns (by simp) (hb hby at_241) hr
            · exact ⟨rfl, N15⟩
          · obtain ⟨_, Tr12, Lr12, Xr12, hQr12, str12⟩ := ocallS Xr11 hx hZ zm9 hown (ww hw 83 rfl) (ww hw 84 rfl) (by decide) (ww hw 85 rfl) (ww hw 2 rfl) er11 (rm10_18 l Z a0 hw []  Tr8.heap n0 Z_5 ) (st := [(.int 0)]) rfl 0 rfl (by decide) (pc := 165) (Ls := (lc14 i0 i1 i2 i3 z1 z2 z3 1 0 0 u1 u2 u3 br4 0)) hml rfl (lenOf pd_5 rfl) at_165 hby
            obtain ⟨rfl, Nr12q, er12⟩ := hQr12
            have N11 := Fr.app N10 Nr12q
            have hc25 : ¬ ((i1 &&& (7 : Int32)) = (i2 &&& (7 : Int32))) := hk25
            have hs26 : ¬ (z2 = z3) := by rw [hz3, hz2]; exact hc25
            refine own_go (U' := Tr12.setTop (mkF m 172 (lc14 i0 i1 i2 i3 z1 z2 z3 1 0 0 u1 u2 u3 br4 0) [(.int z3), (.int z1), (.int 0)])) (fun t k => oicY (pc := 152) Xr11 hx hby at_152 164 (feq hs26).2 (by decide) (oiconst Xr11 hx hby at_164 (str12 _ (oiload Xr12 hx hby at_168 rfl (oiload Xr12 hx hby at_170 rfl k))))) ?_
            by_cases hk26 : (i0 &&& (7 : Int32)) = (i2 &&& (7 : Int32))
            · have hc21 : (i0 &&& (7 : Int32)) = (i2 &&& (7 : Int32)) := hk26
              have hs22 : z1 = z3 := by rw [hz3, hz1]; exact hc21
              refine own_go (U' := Tr12.setTop (mkF m 177 (lc14 i0 i1 i2 i3 z1 z2 z3 1 0 0 u1 u2 u3 br4 0) [(.int 0), (.int 0)])) (fun t k => oicN Xr12 hx hby at_172 (teq hs22).2 (oiload Xr12 hx hby at_175 rfl k)) ?_
              obtain ⟨_, Tr13, Lr13, Xr13, hQr13, str13⟩ := ocallS Xr12 hx hZ zm9 hown (ww hw 83 rfl) (ww hw 84 rfl) (by decide) (ww hw 85 rfl) (ww hw 2 rfl) er12 (rm10_18 l Z a0 hw []  Tr8.heap n0 Z_5 ) (st := [(.int 0), (.int 0)]) rfl 1 rfl (by decide) (pc := 185) (Ls := (lc14 i0 i1 i2 i3 z1 z2 z3 1 0 0 u1 u2 u3 br4 0)) hml rfl (lenOf pd_5 rfl) at_185 hby
              obtain ⟨rfl, Nr13q, er13⟩ := hQr13
              have N12 := Fr.app N11 Nr13q
              refine own_go (U' := Tr13.setTop (mkF m 193 (lc14 i0 i1 i2 i3 z1 z2 z3 1 0 0 u1 u2 u3 br4 0) [(.int z3), (.int z1), (.int 0)])) (fun t k => oifY (pc := 177) Xr12 hx hby at_177 184 (by decide) (by decide) (oiconst Xr12 hx hby at_184 (str13 _ (oiadd Xr13 hx hby at_188 (oiload Xr13 hx hby at_189 rfl (oiload Xr13 hx hby at_191 rfl k)))))) ?_
              refine own_go (U' := Tr13.setTop (mkF m 198 (lc14 i0 i1 i2 i3 z1 z2 z3 1 0 0 u1 u2 u3 br4 0) [(.int 0), (.int 0)])) (fun t k => oicN Xr13 hx hby at_193 (teq hs22).2 (oiload Xr13 hx hby at_196 rfl k)) ?_
              obtain ⟨_, Tr14, Lr14, Xr14, hQr14, str14⟩ := ocallS Xr13 hx hZ zm9 hown (ww hw 83 rfl) (ww hw 84 rfl) (by decide) (ww hw 85 rfl) (ww hw 2 rfl) er13 (rm10_18 l Z a0 hw []  Tr8.heap n0 Z_5 ) (st := [(.int 0), (.int 0)]) rfl 1 rfl (by decide) (pc := 206) (Ls := (lc14 i0 i1 i2 i3 z1 z2 z3 1 0 0 u1 u2 u3 br4 0)) hml rfl (lenOf pd_5 rfl) at_206 hby
              obtain ⟨rfl, Nr14q, er14⟩ := hQr14
              have N13 := Fr.app N12 Nr14q
              have f34 : Exa Z Tr8.heap br4 zs22 := (f29.keep Kr8)
              have f35 : Fld Z Tr8.heap br4 zs22 "counts" "[I" (.ref b1) := (f30.keep Kr8 (ninS ne3 nin0))
              have f36 : Exa Z Tr8.heap u1 zs0 := (f31.keep Kr8)
              have f37 : Fld Z Tr8.heap u1 zs26 "ordinal" "I" (.int z1) := (f32.keep Kr8 (ninS ne5 nin0))
              obtain ⟨_, Tr15, Lr15, Xr15, hQr15, str15⟩ := ocallV Xr14 hx hZ zm10 zm10 hown (ww hw 86 rfl) (ww hw 87 rfl) (notFace_of_selects (args := #[]) (mvT hZ (ww hw 89 rfl))) (ww hw 89 rfl) (ww hw 88 rfl) (by decide) (ww hw 90 rfl) (ww hw 13 rfl) er14 f34 (rm11_50 l Z a0 hw [] br4 u1 b1 z1 k1 z2 Tr8.heap n0 Z_5 f35 f36 f37 f33 hs4 hs6) (st := [(.ref u1), (.ref br4)]) rfl 0 rfl (by decide) (pc := 216) (Ls := (lc15 i0 i1 i2 i3 z1 z2 z3 1 0 0 u1 u2 u3 br4 0 0)) hml rfl (lenOf pd_6 rfl) at_216 hby
              obtain ⟨rfl, Nr15q, er15⟩ := hQr15
              have N14 := Fr.app N13 Nr15q
              refine own_go (U' := Tr15.setTop (mkF m 221 (lc15 i0 i1 i2 i3 z1 z2 z3 1 0 0 u1 u2 u3 br4 0 0) [(.int 0), (.int 0)])) (fun t k => oifY (pc := 198) Xr13 hx hby at_198 205 (by decide) (by decide) (oiconst Xr13 hx hby at_205 (str14 _ (oiadd Xr14 hx hby at_209 (oistore Xr14 hx hby at_210 (lc15 i0 i1 i2 i3 z1 z2 z3 1 0 0 u1 u2 u3 br4 0 0) rfl (oaload Xr14 hx hby at_212 rfl rfl (oaload Xr14 hx hby at_214 rfl rfl (str15 _ (oiload Xr15 hx hby at_219 rfl k))))))))) ?_
              have f38 : Exa Z Tr8.heap u3 zs0 := (((((Exa.ext Er4 f5).keep Kr5).keep Kr6).keep Kr7).keep Kr8)
              have ne6 : u3 ≠ br4 := Nat.ne_of_lt (Nat.lt_of_lt_of_le (f6.lt) (Nat.le_of_eq gr4.symm))
              have ne7 : u3 ≠ b1 := Nat.ne_of_lt (Nat.lt_of_lt_of_le (Nat.lt_of_lt_of_le (f6.lt) Er4.1) sz1)
              have f39 : Fld Z Tr8.heap u3 zs26 "ordinal" "I" (.int z3) := (((((Fld.ext Er4 f6).keep Kr5 (ninS ne6 nin0)).keep Kr6 (ninS ne7 nin0)).keep Kr7 (ninS ne7 nin0)).keep Kr8 (ninS ne7 nin0))
              have hc23 : (i2 &&& (7 : Int32)) = (i0 &&& (7 : Int32)) := (Int32.toInt_inj.mp (by have := congrArg Int32.toInt hk26; have := c_and i2 (7 : Int32) (by decide); have := (by decide : ((7 : Int32)).toInt = 7); have := c_and i0 (7 : Int32) (by decide); omega))
              have hs24 : z3 = z1 := by rw [hz3, hz1]; exact hc23
              obtain ⟨_, Tr16, Lr16, Xr16, hQr16, str16⟩ := ocallV Xr15 hx hZ zm10 zm10 hown (ww hw 86 rfl) (ww hw 87 rfl) (notFace_of_selects (args := #[]) (mvT hZ (ww hw 89 rfl))) (ww hw 89 rfl) (ww hw 88 rfl) (by decide) (ww hw 90 rfl) (ww hw 13 rfl) er15 f34 (rm11_52 l Z a0 hw [] br4 u3 b1 z3 k1 z1 z2 Tr8.heap n0 Z_5 f35 f38 f39 f33 hs12 hs14 hs24) (st := [(.ref u3), (.ref br4)]) rfl 0 rfl (by decide) (pc := 228) (Ls := (lc15 i0 i1 i2 i3 z1 z2 z3 1 0 0 u1 u2 u3 br4 0 0)) hml rfl (lenOf pd_6 rfl) at_228 hby
              obtain ⟨rfl, Nr16q, er16⟩ := hQr16
              have N15 := Fr.app N14 Nr16q
              refine own_go (U' := Tr16.setTop (mkF m 233 (lc15 i0 i1 i2 i3 z1 z2 z3 1 0 0 u1 u2 u3 br4 0 0) [(.int 0), (.int 0)])) (fun t k => oicN Xr15 hx hby at_221 (by decide) (oaload Xr15 hx hby at_224 rfl rfl (oaload Xr15 hx hby at_226 rfl rfl (str16 _ (oiload Xr16 hx hby at_231 rfl k))))) ?_
              refine own_go (U' := Tr16.setTop (mkF m 241 (lc15 i0 i1 i2 i3 z1 z2 z3 1 0 0 u1 u2 u3 br4 0 0) [(.int 1)])) (fun t k => oicN Xr16 hx hby at_233 (by decide) (oiconst Xr16 hx hby at_236 (ogoto (pc := 237) Xr16 hx hby at_237 241 (by decide) k))) ?_
              obtain ⟨fs, hr, hrun, hended, hW, hsame⟩ := Xr16.leave (v := some (.int 1)) (fun h => by rw [Bd.returns] at h; cases h)
              refine own_out ⟨_, _, ?_, hrun, hended, _, _, rfl, ?_, ⟨_, rfl⟩, hW, hsame.mono (by decide) (by decide)⟩
              · exact retN Xr16 hx (t := .boolean) Bd.returns (by simp) (hb hby at_241) hr
              · exact ⟨rfl, N15⟩
            · obtain ⟨_, Tr13, Lr13, Xr13, hQr13, str13⟩ := ocallS Xr12 hx hZ zm9 hown (ww hw 83 rfl) (ww hw 84 rfl) (by decide) (ww hw 85 rfl) (ww hw 2 rfl) er12 (rm10_18 l Z a0 hw []  Tr8.heap n0 Z_5 ) (st := [(.int 0), (.int 0)]) rfl 1 rfl (by decide) (pc := 185) (Ls := (lc14 i0 i1 i2 i3 z1 z2 z3 1 0 0 u1 u2 u3 br4 0)) hml rfl (lenOf pd_5 rfl) at_185 hby
              obtain ⟨rfl, Nr13q, er13⟩ := hQr13
              have N12 := Fr.app N11 Nr13q
              have hc27 : ¬ ((i0 &&& (7 : Int32)) = (i2 &&& (7 : Int32))) := hk26
              have hs28 : ¬ (z1 = z3) := by rw [hz3, hz1]; exact hc27
              refine own_go (U' := Tr13.setTop (mkF m 193 (lc14 i0 i1 i2 i3 z1 z2 z3 1 0 0 u1 u2 u3 br4 0) [(.int z3), (.int z1), (.int 0)])) (fun t k => oicY (pc := 172) Xr12 hx hby at_172 184 (feq hs28).2 (by decide) (oiconst Xr12 hx hby at_184 (str13 _ (oiadd Xr13 hx hby at_188 (oiload Xr13 hx hby at_189 rfl (oiload Xr13 hx hby at_191 rfl k)))))) ?_
              obtain ⟨_, Tr14, Lr14, Xr14, hQr14, str14⟩ := ocallS Xr13 hx hZ zm9 hown (ww hw 83 rfl) (ww hw 84 rfl) (by decide) (ww hw 85 rfl) (ww hw 2 rfl) er13 (rm10_18 l Z a0 hw []  Tr8.heap n0 Z_5 ) (st := [(.int 0), (.int 0)]) rfl 1 rfl (by decide) (pc := 206) (Ls := (lc14 i0 i1 i2 i3 z1 z2 z3 1 0 0 u1 u2 u3 br4 0)) hml rfl (lenOf pd_5 rfl) at_206 hby
              obtain ⟨rfl, Nr14q, er14⟩ := hQr14
              have N13 := Fr.app N12 Nr14q
              have f34 : Exa Z Tr8.heap br4 zs22 := (f29.keep Kr8)
              have f35 : Fld Z Tr8.heap br4 zs22 "counts" "[I" (.ref b1) := (f30.keep Kr8 (ninS ne3 nin0))
              have f36 : Exa Z Tr8.heap u1 zs0 := (f31.keep Kr8)
              have f37 : Fld Z Tr8.heap u1 zs26 "ordinal" "I" (.int z1) := (f32.keep Kr8 (ninS ne5 nin0))
              obtain ⟨_, Tr15, Lr15, Xr15, hQr15, str15⟩ := ocallV Xr14 hx hZ zm10 zm10 hown (ww hw 86 rfl) (ww hw 87 rfl) (notFace_of_selects (args := #[]) (mvT hZ (ww hw 89 rfl))) (ww hw 89 rfl) (ww hw 88 rfl) (by decide) (ww hw 90 rfl) (ww hw 13 rfl) er14 f34 (rm11_50 l Z a0 hw [] br4 u1 b1 z1 k1 z2 Tr8.heap n0 Z_5 f35 f36 f37 f33 hs4 hs6) (st := [(.ref u1), (.ref br4)]) rfl 0 rfl (by decide) (pc := 216) (Ls := (lc15 i0 i1 i2 i3 z1 z2 z3 1 0 0 u1 u2 u3 br4 0 0)) hml rfl (lenOf pd_6 rfl) at_216 hby
              obtain ⟨rfl, Nr15q, er15⟩ := hQr15
              have N14 := Fr.app N13 Nr15q
              refine own_go (U' := Tr15.setTop (mkF m 221 (lc15 i0 i1 i2 i3 z1 z2 z3 1 0 0 u1 u2 u3 br4 0 0) [(.int 0), (.int 0)])) (fun t k => oicY (pc := 193) Xr13 hx hby at_193 205 (feq hs28).2 (by decide) (oiconst Xr13 hx hby at_205 (str14 _ (oiadd Xr14 hx hby at_209 (oistore Xr14 hx hby at_210 (lc15 i0 i1 i2 i3 z1 z2 z3 1 0 0 u1 u2 u3 br4 0 0) rfl (oaload Xr14 hx hby at_212 rfl rfl (oaload Xr14 hx hby at_214 rfl rfl (str15 _ (oiload Xr15 hx hby at_219 rfl k))))))))) ?_
              have f38 : Exa Z Tr8.heap u3 zs0 := (((((Exa.ext Er4 f5).keep Kr5).keep Kr6).keep Kr7).keep Kr8)
              have ne6 : u3 ≠ br4 := Nat.ne_of_lt (Nat.lt_of_lt_of_le (f6.lt) (Nat.le_of_eq gr4.symm))
              have ne7 : u3 ≠ b1 := Nat.ne_of_lt (Nat.lt_of_lt_of_le (Nat.lt_of_lt_of_le (f6.lt) Er4.1) sz1)
              have f39 : Fld Z Tr8.heap u3 zs26 "ordinal" "I" (.int z3) := (((((Fld.ext Er4 f6).keep Kr5 (ninS ne6 nin0)).keep Kr6 (ninS ne7 nin0)).keep Kr7 (ninS ne7 nin0)).keep Kr8 (ninS ne7 nin0))
              have hc29 : ¬ ((i2 &&& (7 : Int32)) = (i0 &&& (7 : Int32))) := (fun e => by have := congrArg Int32.toInt e; have : ¬ ((i0 &&& (7 : Int32))).toInt = ((i2 &&& (7 : Int32))).toInt := fun e => hk26 (Int32.toInt_inj.mp e); have := c_and i2 (7 : Int32) (by decide); have := (by decide : ((7 : Int32)).toInt = 7); have := c_and i0 (7 : Int32) (by decide); omega)
              have hs30 : ¬ (z3 = z1) := by rw [hz3, hz1]; exact hc29
              have hc31 : ¬ ((i2 &&& (7 : Int32)) = (i1 &&& (7 : Int32))) := (fun e => by have := congrArg Int32.toInt e; have : ¬ ((i1 &&& (7 : Int32))).toInt = ((i2 &&& (7 : Int32))).toInt := fun e => hk25 (Int32.toInt_inj.mp e); have := c_and i2 (7 : Int32) (by decide); have := (by decide : ((7 : Int32)).toInt = 7); have := c_and i1 (7 : Int32) (by decide); omega)
              have hs32 : ¬ (z3 = z2) := by rw [hz3, hz2]; exact hc31
              obtain ⟨_, Tr16, Lr16, Xr16, hQr16, str16⟩ := ocallV Xr15 hx hZ zm10 zm10 hown (ww hw 86 rfl) (ww hw 87 rfl) (notFace_of_selects (args := #[]) (mvT hZ (ww hw 89 rfl))) (ww hw 89 rfl) (ww hw 88 rfl) (by decide) (ww hw 90 rfl) (ww hw 13 rfl) er15 f34 (rm11_53 l Z a0 hw [] br4 u3 b1 z3 k1 z1 z2 Tr8.heap n0 Z_5 f35 f38 f39 f33 hs12 hs14 hs30 hs32) (st := [(.ref u3), (.ref br4)]) rfl 0 rfl (by decide) (pc := 228) (Ls := (lc15 i0 i1 i2 i3 z1 z2 z3 1 0 0 u1 u2 u3 br4 0 0)) hml rfl (lenOf pd_6 rfl) at_228 hby
              obtain ⟨rfl, Nr16q, er16⟩ := hQr16
              have N15 := Fr.app N14 Nr16q
              refine own_go (U' := Tr16.setTop (mkF m 233 (lc15 i0 i1 i2 i3 z1 z2 z3 1 0 0 u1 u2 u3 br4 0 0) [(.int 0), (.int 0)])) (fun t k => oicN Xr15 hx hby at_221 (by decide) (oaload Xr15 hx hby at_224 rfl rfl (oaload Xr15 hx hby at_226 rfl rfl (str16 _ (oiload Xr16 hx hby at_231 rfl k))))) ?_
              refine own_go (U' := Tr16.setTop (mkF m 241 (lc15 i0 i1 i2 i3 z1 z2 z3 1 0 0 u1 u2 u3 br4 0 0) [(.int 1)])) (fun t k => oicN Xr16 hx hby at_233 (by decide) (oiconst Xr16 hx hby at_236 (ogoto (pc := 237) Xr16 hx hby at_237 241 (by decide) k))) ?_
              obtain ⟨fs, hr, hrun, hended, hW, hsame⟩ := Xr16.leave (v := some (.int 1)) (fun h => by rw [Bd.returns] at h; cases h)
              refine own_out ⟨_, _, ?_, hrun, hended, _, _, rfl, ?_, ⟨_, rfl⟩, hW, hsame.mono (by decide) (by decide)⟩
              · exact retN Xr16 hx (t := .boolean) Bd.returns (by simp) (hb hby at_241) hr
              · exact ⟨rfl, N15⟩
      · obtain ⟨_, Tr1, Lr1, Xr1, hQr1, str1⟩ := ocallS X0 hx hZ zm0 hown (ww hw 0 rfl) (ww hw 1 rfl) (by decide) (ww hw 3 rfl) (ww hw 2 rfl) e0 (mg1_8 l Z a0 hw [] z1 w0 w4 w2 w1 w5 w6 w7 w8 h0 n0 Z0 S0 S8 S4 S2 S10 S12 S14 S16) (st := [(.int z1)]) rfl 0 rfl (by decide) (pc := 59) (Ls := (lc5 i0 i1 i2 i3 z1 z2 z3 1 0 1)) hml rfl (lenOf pd_0 rfl) at_59 hby
        obtain ⟨rfl, Nr1q, er1⟩ := hQr1
        have hc39 : ¬ ((i3 &&& (4 : Int32)) = (0 : Int32)) := hk22
        refine own_go (U' := Tr1.setTop (mkF m 62 (lc5 i0 i1 i2 i3 z1 z2 z3 1 0 1) [(.ref (own_pick z1 w0 w4 w2 w1 w5 w6 w7 w8))])) (fun t k => oifN X0 hx hby at_47 ((if0 _ _).trans (feq hc39).1) (oiconst X0 hx hby at_50 (ogoto (pc := 51) X0 hx hby at_51 55 (by decide) (oistore X0 hx hby at_55 (lc5 i0 i1 i2 i3 z1 z2 z3 1 0 1) rfl (oiload X0 hx hby at_57 rfl (str1 _ k)))))) ?_
        obtain ⟨u1, hu1⟩ : ∃ z, z = (own_pick z1 w0 w4 w2 w1 w5 w6 w7 w8) := ⟨_, rfl⟩
        rw [← hu1]
        have f1 : Exa Z h0 u1 zs0 := by rw [hu1]; exact own_pick_E S1 S9 S5 S3 S11 S13 S15 S17
        have hc3 : ¬ ((i0 &&& (7 : Int32)) < (0 : Int32)) := (fun e => by have := Int32.lt_iff_toInt_lt.mp e; have := c_and i0 (7 : Int32) (by decide); have := (by decide : ((7 : Int32)).toInt = 7); have := (by decide : ((0 : Int32)).toInt = 0); omega)
        have hs4 : ¬ (z1 < (0 : Int32)) := by rw [hz1]; exact hc3
        have hc5 : (i0 &&& (7 : Int32)) < (8 : Int32) := (Int32.lt_iff_toInt_lt.mpr (by have := c_and i0 (7 : Int32) (by decide); have := (by decide : ((7 : Int32)).toInt = 7); have := (by decide : ((8 : Int32)).toInt = 8); omega))
        have hs6 : z1 < (8 : Int32) := by rw [hz1]; exact hc5
        have f2 : Fld Z h0 u1 zs26 "ordinal" "I" (.int z1) := by rw [hu1]; exact own_pick_O S19 S24 S20 S18 S21 S25 S23 S22 hs4 hs6
        have N1 := Fr.app N0 Nr1q
        obtain ⟨_, Tr2, Lr2, Xr2, hQr2, str2⟩ := ocallS Xr1 hx hZ zm0 hown (ww hw 0 rfl) (ww hw 1 rfl) (by decide) (ww hw 3 rfl) (ww hw 2 rfl) er1 (mg1_8 l Z a0 hw [] z2 w0 w4 w2 w1 w5 w6 w7 w8 h0 n0 Z0 S0 S8 S4 S2 S10 S12 S14 S16) (st := [(.int z2)]) rfl 0 rfl (by decide) (pc := 66) (Ls := (lc7 i0 i1 i2 i3 z1 z2 z3 1 0 1 u1)) hml rfl (lenOf pd_0 rfl) at_66 hby
        obtain ⟨rfl, Nr2q, er2⟩ := hQr2
        refine own_go (U' := Tr2.setTop (mkF m 69 (lc7 i0 i1 i2 i3 z1 z2 z3 1 0 1 u1) [(.ref (own_pick z2 w0 w4 w2 w1 w5 w6 w7 w8))])) (fun t k => oastore Xr1 hx hby at_62 (lc7 i0 i1 i2 i3 z1 z2 z3 1 0 1 u1) rfl rfl (oiload Xr1 hx hby at_64 rfl (str2 _ k))) ?_
        obtain ⟨u2, hu2⟩ : ∃ z, z = (own_pick z2 w0 w4 w2 w1 w5 w6 w7 w8) := ⟨_, rfl⟩
        rw [← hu2]
        have f3 : Exa Z h0 u2 zs0 := by rw [hu2]; exact own_pick_E S1 S9 S5 S3 S11 S13 S15 S17
        have hc7 : ¬ ((i1 &&& (7 : Int32)) < (0 : Int32)) := (fun e => by have := Int32.lt_iff_toInt_lt.mp e; have := c_and i1 (7 : Int32) (by decide); have := (by decide : ((7 : Int32)).toInt = 7); have := (by decide : ((0 : Int32)).toInt = 0); omega)
        have hs8 : ¬ (z2 < (0 : Int32)) := by rw [hz2]; exact hc7
        have hc9 : (i1 &&& (7 : Int32)) < (8 : Int32) := (Int32.lt_iff_toInt_lt.mpr (by have := c_and i1 (7 : Int32) (by decide); have := (by decide : ((7 : Int32)).toInt = 7); have := (by decide : ((8 : Int32)).toInt = 8); omega))
        have hs10 : z2 < (8 : Int32) := by rw [hz2]; exact hc9
        have f4 : Fld Z h0 u2 zs26 "ordinal" "I" (.int z2) := by rw [hu2]; exact own_pick_O S19 S24 S20 S18 S21 S25 S23 S22 hs8 hs10
        have N2 := Fr.app N1 Nr2q
        obtain ⟨_, Tr3, Lr3, Xr3, hQr3, str3⟩ := ocallS Xr2 hx hZ zm0 hown (ww hw 0 rfl) (ww hw 1 rfl) (by decide) (ww hw 3 rfl) (ww hw 2 rfl) er2 (mg1_8 l Z a0 hw [] z3 w0 w4 w2 w1 w5 w6 w7 w8 h0 n0 Z0 S0 S8 S4 S2 S10 S12 S14 S16) (st := [(.int z3)]) rfl 0 rfl (by decide) (pc := 73) (Ls := (lc8 i0 i1 i2 i3 z1 z2 z3 1 0 1 u1 u2)) hml rfl (lenOf pd_0 rfl) at_73 hby
        obtain ⟨rfl, Nr3q, er3⟩ := hQr3
        refine own_go (U' := Tr3.setTop (mkF m 76 (lc8 i0 i1 i2 i3 z1 z2 z3 1 0 1 u1 u2) [(.ref (own_pick z3 w0 w4 w2 w1 w5 w6 w7 w8))])) (fun t k => oastore Xr2 hx hby at_69 (lc8 i0 i1 i2 i3 z1 z2 z3 1 0 1 u1 u2) rfl rfl (oiload Xr2 hx hby at_71 rfl (str3 _ k))) ?_
        obtain ⟨u3, hu3⟩ : ∃ z, z = (own_pick z3 w0 w4 w2 w1 w5 w6 w7 w8) := ⟨_, rfl⟩
        rw [← hu3]
        have f5 : Exa Z h0 u3 zs0 := by rw [hu3]; exact own_pick_E S1 S9 S5 S3 S11 S13 S15 S17
        have hc11 : ¬ ((i2 &&& (7 : Int32)) < (0 : Int32)) := (fun e => by have := Int32.lt_iff_toInt_lt.mp e; have := c_and i2 (7 : Int32) (by decide); have := (by decide : ((7 : Int32)).toInt = 7); have := (by decide : ((0 : Int32)).toInt = 0); omega)
        have hs12 : ¬ (z3 < (0 : Int32)) := by rw [hz3]; exact hc11
        have hc13 : (i2 &&& (7 : Int32)) < (8 : Int32) := (Int32.lt_iff_toInt_lt.mpr (by have := c_and i2 (7 : Int32) (by decide); have := (by decide : ((7 : Int32)).toInt = 7); have := (by decide : ((8 : Int32)).toInt = 8); omega))
        have hs14 : z3 < (8 : Int32) := by rw [hz3]; exact hc13
        have f6 : Fld Z h0 u3 zs26 "ordinal" "I" (.int z3) := by rw [hu3]; exact own_pick_O S19 S24 S20 S18 S21 S25 S23 S22 hs12 hs14
        have N3 := Fr.app N2 Nr3q
        obtain ⟨Tr4, hr4, Xr4, er4, Er4, Ar4, Dr4, -, str4⟩ := newO Xr3 hx hZ hown (ww hw 11 rfl) (ww hw 12 rfl) (ww hw 13 rfl) er3 (g := (mkF m 78 (lc9 i0 i1 i2 i3 z1 z2 z3 1 0 1 u1 u2 u3) [])) rfl (hb hby at_78) (by decide) (by decide)
        obtain ⟨br4, gr4⟩ : ∃ z, z = h0.size := ⟨_, rfl⟩
        rw [← gr4] at Ar4 Dr4 str4
        have f7 : Fld Z hr4 br4 zs22 "counts" "[I" .null := Dr4 (Or.inr (ww hw 42 rfl)) (ty := (.array .int)) (by decide)
        have f8 : Fld Z hr4 br4 zs22 zs23 zs24 .null := Dr4 (Or.inr (ww hw 68 rfl)) (ty := (.object zs25)) (by decide)
        have f9 : Sta Z hr4 zs0 "$VALUES" zs12 (.ref w3) := (Sta.ext Er4 S6)
        have f10 : Arv Z hr4 w3 kl0 (.object zs0) (8 : Int32) [(.ref w0), (.ref w4), (.ref w2), (.ref w1), (.ref w5), (.ref w6), (.ref w7), (.ref w8)] .null := (S30.ext Er4)
        have f11 : Exa Z hr4 w3 zs12 := (Exa.ext Er4 S7)
        have g1 : n0 ≤ br4 := Nat.le_trans Z0 (Nat.le_of_eq gr4.symm)
        have f12 : Sta Z hr4 zs17 zs21 zs19 (.ref w10) := (Sta.ext Er4 S28)
        have Z_1 : n0 ≤ hr4.size := Nat.le_trans Z0 Er4.1
        obtain ⟨_, Tr5, Lr5, Xr5, hQr5, str5⟩ := ocallI Xr4 hx hZ zm5 rfl hown (ww hw 14 rfl) (ww hw 15 rfl) (by decide) (ww hw 16 rfl) (ww hw 13 rfl) er4 (rm2_13 l Z a0 hw [] br4 w3 w0 w4 w2 w1 w5 w6 w7 w8 kl0 w10 hr4 n0 Z_1 f9 f10 f11 f7 f8 Ar4 g1 f12) (st := [(.ref br4), (.ref br4)]) rfl 1 rfl (by decide) (pc := 82) (Ls := (lc9 i0 i1 i2 i3 z1 z2 z3 1 0 1 u1 u2 u3)) hml rfl (lenOf pd_2 rfl) at_82 hby
        obtain ⟨b1, b2, k1, rfl, Nr5q, Kr5, sz1, sz2, ne1, f13, f14, f15, f16, f17, f18, f19⟩ := hQr5
        have N4 := Fr.app N3 Nr5q
        have f20 : Exa Z Tr5.heap br4 zs22 := (Ar4.keep Kr5)
        have f21 : Exa Z Tr5.heap u2 zs0 := ((Exa.ext Er4 f3).keep Kr5)
        have ne2 : u2 ≠ br4 := Nat.ne_of_lt (Nat.lt_of_lt_of_le (f4.lt) (Nat.le_of_eq gr4.symm))
        have f22 : Fld Z Tr5.heap u2 zs26 "ordinal" "I" (.int z2) := ((Fld.ext Er4 f4).keep Kr5 (ninS ne2 nin0))
        have g2 : n0 ≤ b1 := Nat.le_trans Z_1 sz1
        have Z_2 : n0 ≤ Tr5.heap.size := Nat.le_trans Z_1 Kr5.1
        obtain ⟨_, Tr6, Lr6, Xr6, hQr6, str6⟩ := ocallV Xr5 hx hZ zm7 zm7 hown (ww hw 69 rfl) (ww hw 70 rfl) (notFace_of_selects (args := #[]) (mvT hZ (ww hw 72 rfl))) (ww hw 72 rfl) (ww hw 71 rfl) (by decide) (ww hw 73 rfl) (ww hw 13 rfl) rfl f20 (rm8_42 l Z a0 hw [] br4 u2 b1 z2 k1 Tr5.heap n0 Z_2 f13 f21 f22 f16 hs8 hs10 g2) (st := [(.int 1), (.ref u2), (.ref br4)]) rfl 0 rfl (by decide) (pc := 93) (Ls := (lc12 i0 i1 i2 i3 z1 z2 z3 1 0 1 u1 u2 u3 br4)) hml rfl (lenOf pd_4 rfl) at_93 hby
        obtain ⟨rfl, Nr6q, Kr6, f23⟩ := hQr6
        have N5 := Fr.app N4 Nr6q
        have f24 : Exa Z Tr6.heap br4 zs22 := (f20.keep Kr6)
        have ne3 : br4 ≠ b1 := Nat.ne_of_lt (Nat.lt_of_lt_of_le (f7.lt) sz1)
        have f25 : Fld Z Tr6.heap br4 zs22 "counts" "[I" (.ref b1) := (f13.keep Kr6 (ninS ne3 nin0))
        have f26 : Exa Z Tr6.heap u1 zs0 := (((Exa.ext Er4 f1).keep Kr5).keep Kr6)
        have ne4 : u1 ≠ br4 := Nat.ne_of_lt (Nat.lt_of_lt_of_le (f2.lt) (Nat.le_of_eq gr4.symm))
        have ne5 : u1 ≠ b1 := Nat.ne_of_lt (Nat.lt_of_lt_of_le (Nat.lt_of_lt_of_le (f2.lt) Er4.1) sz1)
        have f27 : Fld Z Tr6.heap u1 zs26 "ordinal" "I" (.int z1) := (((Fld.ext Er4 f2).keep Kr5 (ninS ne4 nin0)).keep Kr6 (ninS ne5 nin0))
        have Z_3 : n0 ≤ Tr6.heap.size := Nat.le_trans Z_2 Kr6.1
        by_cases hk27 : (i0 &&& (7 : Int32)) = (i1 &&& (7 : Int32))
        · have hc15 : (i0 &&& (7 : Int32)) = (i1 &&& (7 : Int32)) := hk27
          have hs16 : z1 = z2 := by rw [hz2, hz1]; exact hc15
          obtain ⟨_, Tr7, Lr7, Xr7, hQr7, str7⟩ := ocallV Xr6 hx hZ zm7 zm7 hown (ww hw 69 rfl) (ww hw 70 rfl) (notFace_of_selects (args := #[]) (mvT hZ (ww hw 72 rfl))) (ww hw 72 rfl) (ww hw 71 rfl) (by decide) (ww hw 73 rfl) (ww hw 13 rfl) rfl f24 (rm8_43 l Z a0 hw [] br4 u1 b1 z1 k1 z2 Tr6.heap n0 Z_3 f25 f26 f27 f23 hs4 hs6 hs16 g2) (st := [(.int 0), (.ref u1), (.ref br4)]) rfl 0 rfl (by decide) (pc := 102) (Ls := (lc12 i0 i1 i2 i3 z1 z2 z3 1 0 1 u1 u2 u3 br4)) hml rfl (lenOf pd_4 rfl) at_102 hby
          obtain ⟨rfl, Nr7q, Kr7, f28⟩ := hQr7
          have N6 := Fr.app N5 Nr7q
          have f29 : Exa Z Tr7.heap br4 zs22 := (f24.keep Kr7)
          have f30 : Fld Z Tr7.heap br4 zs22 "counts" "[I" (.ref b1) := (f25.keep Kr7 (ninS ne3 nin0))
          have f31 : Exa Z Tr7.heap u1 zs0 := (f26.keep Kr7)
          have f32 : Fld Z Tr7.heap u1 zs26 "ordinal" "I" (.int z1) := (f27.keep Kr7 (ninS ne5 nin0))
          have Z_4 : n0 ≤ Tr7.heap.size := Nat.le_trans Z_3 Kr7.1
          obtain ⟨_, Tr8, Lr8, Xr8, hQr8, str8⟩ := ocallV Xr7 hx hZ zm7 zm7 hown (ww hw 69 rfl) (ww hw 70 rfl) (notFace_of_selects (args := #[]) (mvT hZ (ww hw 72 rfl))) (ww hw 72 rfl) (ww hw 71 rfl) (by decide) (ww hw 73 rfl) (ww hw 13 rfl) rfl f29 (rm8_54 l Z a0 hw [] br4 u1 b1 z1 k1 z2 Tr7.heap n0 Z_4 f30 f31 f32 f28 hs4 hs6 g2) (st := [(.int 1), (.ref u1), (.ref br4)]) rfl 0 rfl (by decide) (pc := 111) (Ls := (lc12 i0 i1 i2 i3 z1 z2 z3 1 0 1 u1 u2 u3 br4)) hml rfl (lenOf pd_4 rfl) at_111 hby
          obtain ⟨rfl, Nr8q, Kr8, f33⟩ := hQr8
          have N7 := Fr.app N6 Nr8q
          refine own_go (U' := Tr8.setTop (mkF m 118 (lc12 i0 i1 i2 i3 z1 z2 z3 1 0 1 u1 u2 u3 br4) [(.int z1), (.int z2)])) (fun t k => oastore Xr3 hx hby at_76 (lc9 i0 i1 i2 i3 z1 z2 z3 1 0 1 u1 u2 u3) rfl rfl (str4 _ (odup Xr4 hx hby at_81 rfl (str5 _ (oastore Xr5 hx hby at_85 (lc12 i0 i1 i2 i3 z1 z2 z3 1 0 1 u1 u2 u3 br4) rfl rfl (oaload Xr5 hx hby at_87 rfl rfl (oaload Xr5 hx hby at_89 rfl rfl (oiload Xr5 hx hby at_91 rfl (str6 _ (oaload Xr6 hx hby at_96 rfl rfl (oaload Xr6 hx hby at_98 rfl rfl (oiload Xr6 hx hby at_100 rfl (str7 _ (oaload Xr7 hx hby at_105 rfl rfl (oaload Xr7 hx hby at_107 rfl rfl (oiload Xr7 hx hby at_109 rfl (str8 _ (oiload Xr8 hx hby at_114 rfl (oiload Xr8 hx hby at_116 rfl k))))))))))))))))))) ?_
          have hc17 : (i1 &&& (7 : Int32)) = (i0 &&& (7 : Int32)) := (Int32.toInt_inj.mp (by have := congrArg Int32.toInt hk27; have := c_and i1 (7 : Int32) (by decide); have := (by decide : ((7 : Int32)).toInt = 7); have := c_and i0 (7 : Int32) (by decide); omega))
          have hs18 : z2 = z1 := by rw [hz2, hz1]; exact hc17
          refine own_go (U' := Tr8.setTop (mkF m 123 (lc12 i0 i1 i2 i3 z1 z2 z3 1 0 1 u1 u2 u3 br4) [(.int 1)])) (fun t k => oicN Xr8 hx hby at_118 (teq hs18).2 (oiload Xr8 hx hby at_121 rfl k)) ?_
          have Z_5 : n0 ≤ Tr8.heap.size := Nat.le_trans Z_4 Kr8.1
          obtain ⟨_, Tr9, Lr9, Xr9, hQr9, str9⟩ := ocallS Xr8 hx hZ zm9 hown (ww hw 83 rfl) (ww hw 84 rfl) (by decide) (ww hw 85 rfl) (ww hw 2 rfl) rfl (rm10_25 l Z a0 hw []  Tr8.heap n0 Z_5 ) (st := [(.int 1)]) rfl 0 rfl (by decide) (pc := 131) (Ls := (lc12 i0 i1 i2 i3 z1 z2 z3 1 0 1 u1 u2 u3 br4)) hml rfl (lenOf pd_5 rfl) at_131 hby
          obtain ⟨rfl, Nr9q, er9⟩ := hQr9
          have N8 := Fr.app N7 Nr9q
          obtain ⟨_, Tr10, Lr10, Xr10, hQr10, str10⟩ := ocallS Xr9 hx hZ zm9 hown (ww hw 83 rfl) (ww hw 84 rfl) (by decide) (ww hw 85 rfl) (ww hw 2 rfl) er9 (rm10_18 l Z a0 hw []  Tr8.heap n0 Z_5 ) (st := [(.int 0), (.int 1)]) rfl 1 rfl (by decide) (pc := 136) (Ls := (lc12 i0 i1 i2 i3 z1 z2 z3 1 0 1 u1 u2 u3 br4)) hml rfl (lenOf pd_5 rfl) at_136 hby
          obtain ⟨rfl, Nr10q, er10⟩ := hQr10
          have N9 := Fr.app N8 Nr10q
          obtain ⟨_, Tr11, Lr11, Xr11, hQr11, str11⟩ := ocallS Xr10 hx hZ zm9 hown (ww hw 83 rfl) (ww hw 84 rfl) (by decide) (ww hw 85 rfl) (ww hw 2 rfl) er10 (rm10_25 l Z a0 hw []  Tr8.heap n0 Z_5 ) (st := [(.int 1), (.int 1)]) rfl 1 rfl (by decide) (pc := 142) (Ls := (lc12 i0 i1 i2 i3 z1 z2 z3 1 0 1 u1 u2 u3 br4)) hml rfl (lenOf pd_5 rfl) at_142 hby
          obtain ⟨rfl, Nr11q, er11⟩ := hQr11
          have N10 := Fr.app N9 Nr11q
          refine own_go (U' := Tr11.setTop (mkF m 152 (lc14 i0 i1 i2 i3 z1 z2 z3 1 0 1 u1 u2 u3 br4 2) [(.int z3), (.int z2)])) (fun t k => oifN Xr8 hx hby at_123 (by decide) (oiconst Xr8 hx hby at_126 (ogoto (pc := 127) Xr8 hx hby at_127 131 (by decide) (str9 _ (oiload Xr9 hx hby at_134 rfl (str10 _ (oiadd Xr10 hx hby at_139 (oiload Xr10 hx hby at_140 rfl (str11 _ (oiadd Xr11 hx hby at_145 (oistore Xr11 hx hby at_146 (lc14 i0 i1 i2 i3 z1 z2 z3 1 0 1 u1 u2 u3 br4 2) rfl (oiload Xr11 hx hby at_148 rfl (oiload Xr11 hx hby at_150 rfl k))))))))))))) ?_
          by_cases hk28 : (i1 &&& (7 : Int32)) = (i2 &&& (7 : Int32))
          · have hc19 : (i1 &&& (7 : Int32)) = (i2 &&& (7 : Int32)) := hk28
            have hs20 : z2 = z3 := by rw [hz3, hz2]; exact hc19
            refine own_go (U' := Tr11.setTop (mkF m 157 (lc14 i0 i1 i2 i3 z1 z2 z3 1 0 1 u1 u2 u3 br4 2) [(.int 1)])) (fun t k => oicN Xr11 hx hby at_152 (teq hs20).2 (oiload Xr11 hx hby at_155 rfl k)) ?_
            obtain ⟨_, Tr12, Lr12, Xr12, hQr12, str12⟩ := ocallS Xr11 hx hZ zm9 hown (ww hw 83 rfl) (ww hw 84 rfl) (by decide) (ww hw 85 rfl) (ww hw 2 rfl) er11 (rm10_25 l Z a0 hw []  Tr8.heap n0 Z_5 ) (st := [(.int 1)]) rfl 0 rfl (by decide) (pc := 165) (Ls := (lc14 i0 i1 i2 i3 z1 z2 z3 1 0 1 u1 u2 u3 br4 2)) hml rfl (lenOf pd_5 rfl) at_165 hby
            obtain ⟨rfl, Nr12q, er12⟩ := hQr12
            have N11 := Fr.app N10 Nr12q
            refine own_go (U' := Tr12.setTop (mkF m 172 (lc14 i0 i1 i2 i3 z1 z2 z3 1 0 1 u1 u2 u3 br4 2) [(.int z3), (.int z1), (.int 1)])) (fun t k => oifN Xr11 hx hby at_157 (by decide) (oiconst Xr11 hx hby at_160 (ogoto (pc := 161) Xr11 hx hby at_161 165 (by decide) (str12 _ (oiload Xr12 hx hby at_168 rfl (oiload Xr12 hx hby at_170 rfl k)))))) ?_
            have hc21 : (i0 &&& (7 : Int32)) = (i2 &&& (7 : Int32)) := (Int32.toInt_inj.mp (by have := congrArg Int32.toInt hk27; have := congrArg Int32.toInt hk28; have := c_and i0 (7 : Int32) (by decide); have := (by decide : ((7 : Int32)).toInt = 7); have := c_and i2 (7 : Int32) (by decide); have := c_and i1 (7 : Int32) (by decide); omega))
            have hs22 : z1 = z3 := by rw [hz3, hz1]; exact hc21
            refine own_go (U' := Tr12.setTop (mkF m 177 (lc14 i0 i1 i2 i3 z1 z2 z3 1 0 1 u1 u2 u3 br4 2) [(.int 0), (.int 1)])) (fun t k => oicN Xr12 hx hby at_172 (teq hs22).2 (oiload Xr12 hx hby at_175 rfl k)) ?_
            obtain ⟨_, Tr13, Lr13, Xr13, hQr13, str13⟩ := ocallS Xr12 hx hZ zm9 hown (ww hw 83 rfl) (ww hw 84 rfl) (by decide) (ww hw 85 rfl) (ww hw 2 rfl) er12 (rm10_18 l Z a0 hw []  Tr8.heap n0 Z_5 ) (st := [(.int 0), (.int 1)]) rfl 1 rfl (by decide) (pc := 185) (Ls := (lc14 i0 i1 i2 i3 z1 z2 z3 1 0 1 u1 u2 u3 br4 2)) hml rfl (lenOf pd_5 rfl) at_185 hby
            obtain ⟨rfl, Nr13q, er13⟩ := hQr13
            have N12 := Fr.app N11 Nr13q
            refine own_go (U' := Tr13.setTop (mkF m 193 (lc14 i0 i1 i2 i3 z1 z2 z3 1 0 1 u1 u2 u3 br4 2) [(.int z3), (.int z1), (.int 1)])) (fun t k => oifY (pc := 177) Xr12 hx hby at_177 184 (by decide) (by decide) (oiconst Xr12 hx hby at_184 (str13 _ (oiadd Xr13 hx hby at_188 (oiload Xr13 hx hby at_189 rfl (oiload Xr13 hx hby at_191 rfl k)))))) ?_
            refine own_go (U' := Tr13.setTop (mkF m 198 (lc14 i0 i1 i2 i3 z1 z2 z3 1 0 1 u1 u2 u3 br4 2) [(.int 1), (.int 1)])) (fun t k => oicN Xr13 hx hby at_193 (teq hs22).2 (oiload Xr13 hx hby at_196 rfl k)) ?_
            obtain ⟨_, Tr14, Lr14, Xr14, hQr14, str14⟩ := ocallS Xr13 hx hZ zm9 hown (ww hw 83 rfl) (ww hw 84 rfl) (by decide) (ww hw 85 rfl) (ww hw 2 rfl) er13 (rm10_25 l Z a0 hw []  Tr8.heap n0 Z_5 ) (st := [(.int 1), (.int 1)]) rfl 1 rfl (by decide) (pc := 206) (Ls := (lc14 i0 i1 i2 i3 z1 z2 z3 1 0 1 u1 u2 u3 br4 2)) hml rfl (lenOf pd_5 rfl) at_206 hby
            obtain ⟨rfl, Nr14q, er14⟩ := hQr14
            have N13 := Fr.app N12 Nr14q
            have f34 : Exa Z Tr8.heap br4 zs22 := (f29.keep Kr8)
            have f35 : Fld Z Tr8.heap br4 zs22 "counts" "[I" (.ref b1) := (f30.keep Kr8 (ninS ne3 nin0))
            have f36 : Exa Z Tr8.heap u1 zs0 := (f31.keep Kr8)
            have f37 : Fld Z Tr8.heap u1 zs26 "ordinal" "I" (.int z1) := (f32.keep Kr8 (ninS ne5 nin0))
            obtain ⟨_, Tr15, Lr15, Xr15, hQr15, str15⟩ := ocallV Xr14 hx hZ zm10 zm10 hown (ww hw 86 rfl) (ww hw 87 rfl) (notFace_of_selects (args := #[]) (mvT hZ (ww hw 89 rfl))) (ww hw 89 rfl) (ww hw 88 rfl) (by decide) (ww hw 90 rfl) (ww hw 13 rfl) er14 f34 (rm11_55 l Z a0 hw [] br4 u1 b1 z1 k1 z2 Tr8.heap n0 Z_5 f35 f36 f37 f33 hs4 hs6) (st := [(.ref u1), (.ref br4)]) rfl 0 rfl (by decide) (pc := 216) (Ls := (lc15 i0 i1 i2 i3 z1 z2 z3 1 0 1 u1 u2 u3 br4 2 2)) hml rfl (lenOf pd_6 rfl) at_216 hby
            obtain ⟨rfl, Nr15q, er15⟩ := hQr15
            have N14 := Fr.app N13 Nr15q
            refine own_go (U' := Tr15.setTop (mkF m 221 (lc15 i0 i1 i2 i3 z1 z2 z3 1 0 1 u1 u2 u3 br4 2 2) [(.int 2), (.int 2)])) (fun t k => oifN Xr13 hx hby at_198 (by decide) (oiconst Xr13 hx hby at_201 (ogoto (pc := 202) Xr13 hx hby at_202 206 (by decide) (str14 _ (oiadd Xr14 hx hby at_209 (oistore Xr14 hx hby at_210 (lc15 i0 i1 i2 i3 z1 z2 z3 1 0 1 u1 u2 u3 br4 2 2) rfl (oaload Xr14 hx hby at_212 rfl rfl (oaload Xr14 hx hby at_214 rfl rfl (str15 _ (oiload Xr15 hx hby at_219 rfl k)))))))))) ?_
            have f38 : Exa Z Tr8.heap u3 zs0 := (((((Exa.ext Er4 f5).keep Kr5).keep Kr6).keep Kr7).keep Kr8)
            have ne6 : u3 ≠ br4 := Nat.ne_of_lt (Nat.lt_of_lt_of_le (f6.lt) (Nat.le_of_eq gr4.symm))
            have ne7 : u3 ≠ b1 := Nat.ne_of_lt (Nat.lt_of_lt_of_le (Nat.lt_of_lt_of_le (f6.lt) Er4.1) sz1)
            have f39 : Fld Z Tr8.heap u3 zs26 "ordinal" "I" (.int z3) := (((((Fld.ext Er4 f6).keep Kr5 (ninS ne6 nin0)).keep Kr6 (ninS ne7 nin0)).keep Kr7 (ninS ne7 nin0)).keep Kr8 (ninS ne7 nin0))
            have hc23 : (i2 &&& (7 : Int32)) = (i0 &&& (7 : Int32)) := (Int32.toInt_inj.mp (by have := congrArg Int32.toInt hk27; have := congrArg Int32.toInt hk28; have := c_and i2 (7 : Int32) (by decide); have := (by decide : ((7 : Int32)).toInt = 7); have := c_and i0 (7 : Int32) (by decide); have := c_and i1 (7 : Int32) (by decide); omega))
            have hs24 : z3 = z1 := by rw [hz3, hz1]; exact hc23
            obtain ⟨_, Tr16, Lr16, Xr16, hQr16, str16⟩ := ocallV Xr15 hx hZ zm10 zm10 hown (ww hw 86 rfl) (ww hw 87 rfl) (notFace_of_selects (args := #[]) (mvT hZ (ww hw 89 rfl))) (ww hw 89 rfl) (ww hw 88 rfl) (by decide) (ww hw 90 rfl) (ww hw 13 rfl) er15 f34 (rm11_56 l Z a0 hw [] br4 u3 b1 z3 k1 z1 z2 Tr8.heap n0 Z_5 f35 f38 f39 f33 hs12 hs14 hs24) (st := [(.ref u3), (.ref br4)]) rfl 0 rfl (by decide) (pc := 228) (Ls := (lc15 i0 i1 i2 i3 z1 z2 z3 1 0 1 u1 u2 u3 br4 2 2)) hml rfl (lenOf pd_6 rfl) at_228 hby
            obtain ⟨rfl, Nr16q, er16⟩ := hQr16
            have N15 := Fr.app N14 Nr16q
            refine own_go (U' := Tr16.setTop (mkF m 233 (lc15 i0 i1 i2 i3 z1 z2 z3 1 0 1 u1 u2 u3 br4 2 2) [(.int 2), (.int 2)])) (fun t k => oicN Xr15 hx hby at_221 (by decide) (oaload Xr15 hx hby at_224 rfl rfl (oaload Xr15 hx hby at_226 rfl rfl (str16 _ (oiload Xr16 hx hby at_231 rfl k))))) ?_
            refine own_go (U' := Tr16.setTop (mkF m 241 (lc15 i0 i1 i2 i3 z1 z2 z3 1 0 1 u1 u2 u3 br4 2 2) [(.int 1)])) (fun t k => oicN Xr16 hx hby at_233 (by decide) (oiconst Xr16 hx hby at_236 (ogoto (pc := 237) Xr16 hx hby at_237 241 (by decide) k))) ?_
            obtain ⟨fs, hr, hrun, hended, hW, hsame⟩ := Xr16.leave (v := some (.int 1)) (fun h => by rw [Bd.returns] at h; cases h)
            refine own_out ⟨_, _, ?_, hrun, hended, _, _, rfl, ?_, ⟨_, rfl⟩, hW, hsame.mono (by decide) (by decide)⟩
            · exact retN Xr16 hx (t := .boolean) Bd.returns (by simp) (hb hby at_241) hr
            · exact ⟨rfl, N15⟩
          · obtain ⟨_, Tr12, Lr12, Xr12, hQr12, str12⟩ := ocallS Xr11 hx hZ zm9 hown (ww hw 83 rfl) (ww hw 84 rfl) (by decide) (ww hw 85 rfl) (ww hw 2 rfl) er11 (rm10_18 l Z a0 hw []  Tr8.heap n0 Z_5 ) (st := [(.int 0)]) rfl 0 rfl (by decide) (pc := 165) (Ls := (lc14 i0 i1 i2 i3 z1 z2 z3 1 0 1 u1 u2 u3 br4 2)) hml rfl (lenOf pd_5 rfl) at_165 hby
            obtain ⟨rfl, Nr12q, er12⟩ := hQr12
            have N11 := Fr.app N10 Nr12q
            have hc25 : ¬ ((i1 &&& (7 : Int32)) = (i2 &&& (7 : Int32))) := hk28
            have hs26 : ¬ (z2 = z3) := by rw [hz3, hz2]; exact hc25
            refine own_go (U' := Tr12.setTop (mkF m 172 (lc14 i0 i1 i2 i3 z1 z2 z3 1 0 1 u1 u2 u3 br4 2) [(.int z3), (.int z1), (.int 0)])) (fun t k => oicY (pc := 152) Xr11 hx hby at_152 164 (feq hs26).2 (by decide) (oiconst Xr11 hx hby at_164 (str12 _ (oiload Xr12 hx hby at_168 rfl (oiload Xr12 hx hby at_170 rfl k))))) ?_
            obtain ⟨_, Tr13, Lr13, Xr13, hQr13, str13⟩ := ocallS Xr12 hx hZ zm9 hown (ww hw 83 rfl) (ww hw 84 rfl) (by decide) (ww hw 85 rfl) (ww hw 2 rfl) er12 (rm10_18 l Z a0 hw []  Tr8.heap n0 Z_5 ) (st := [(.int 0), (.int 0)]) rfl 1 rfl (by decide) (pc := 185) (Ls := (lc14 i0 i1 i2 i3 z1 z2 z3 1 0 1 u1 u2 u3 br4 2)) hml rfl (lenOf pd_5 rfl) at_185 hby
            obtain ⟨rfl, Nr13q, er13⟩ := hQr13
            have N12 := Fr.app N11 Nr13q
            have hc27 : ¬ ((i0 &&& (7 : Int32)) = (i2 &&& (7 : Int32))) := (fun e => by have := congrArg Int32.toInt e; have := congrArg Int32.toInt hk27; have : ¬ ((i1 &&& (7 : Int32))).toInt = ((i2 &&& (7 : Int32))).toInt := fun e => hk28 (Int32.toInt_inj.mp e); have := c_and i0 (7 : Int32) (by decide); have := (by decide : ((7 : Int32)).toInt = 7); have := c_and i2 (7 : Int32) (by decide); have := c_and i1 (7 : Int32) (by decide); omega)
            have hs28 : ¬ (z1 = z3) := by rw [hz3, hz1]; exact hc27
            refine own_go (U' := Tr13.setTop (mkF m 193 (lc14 i0 i1 i2 i3 z1 z2 z3 1 0 1 u1 u2 u3 br4 2) [(.int z3), (.int z1), (.int 0)])) (fun t k => oicY (pc := 172) Xr12 hx hby at_172 184 (feq hs28).2 (by decide) (oiconst Xr12 hx hby at_184 (str13 _ (oiadd Xr13 hx hby at_188 (oiload Xr13 hx hby at_189 rfl (oiload Xr13 hx hby at_191 rfl k)))))) ?_
            obtain ⟨_, Tr14, Lr14, Xr14, hQr14, str14⟩ := ocallS Xr13 hx hZ zm9 hown (ww hw 83 rfl) (ww hw 84 rfl) (by decide) (ww hw 85 rfl) (ww hw 2 rfl) er13 (rm10_18 l Z a0 hw []  Tr8.heap n0 Z_5 ) (st := [(.int 0), (.int 0)]) rfl 1 rfl (by decide) (pc := 206) (Ls := (lc14 i0 i1 i2 i3 z1 z2 z3 1 0 1 u1 u2 u3 br4 2)) hml rfl (lenOf pd_5 rfl) at_206 hby
            obtain ⟨rfl, Nr14q, er14⟩ := hQr14
            have N13 := Fr.app N12 Nr14q
            have f34 : Exa Z Tr8.heap br4 zs22 := (f29.keep Kr8)
            have f35 : Fld Z Tr8.heap br4 zs22 "counts" "[I" (.ref b1) := (f30.keep Kr8 (ninS ne3 nin0))
            have f36 : Exa Z Tr8.heap u1 zs0 := (f31.keep Kr8)
            have f37 : Fld Z Tr8.heap u1 zs26 "ordinal" "I" (.int z1) := (f32.keep Kr8 (ninS ne5 nin0))
            obtain ⟨_, Tr15, Lr15, Xr15, hQr15, str15⟩ := ocallV Xr14 hx hZ zm10 zm10 hown (ww hw 86 rfl) (ww hw 87 rfl) (notFace_of_selects (args := #[]) (mvT hZ (ww hw 89 rfl))) (ww hw 89 rfl) (ww hw 88 rfl) (by decide) (ww hw 90 rfl) (ww hw 13 rfl) er14 f34 (rm11_55 l Z a0 hw [] br4 u1 b1 z1 k1 z2 Tr8.heap n0 Z_5 f35 f36 f37 f33 hs4 hs6) (st := [(.ref u1), (.ref br4)]) rfl 0 rfl (by decide) (pc := 216) (Ls := (lc15 i0 i1 i2 i3 z1 z2 z3 1 0 1 u1 u2 u3 br4 2 0)) hml rfl (lenOf pd_6 rfl) at_216 hby
            obtain ⟨rfl, Nr15q, er15⟩ := hQr15
            have N14 := Fr.app N13 Nr15q
            refine own_go (U' := Tr15.setTop (mkF m 221 (lc15 i0 i1 i2 i3 z1 z2 z3 1 0 1 u1 u2 u3 br4 2 0) [(.int 2), (.int 2)])) (fun t k => oicY (pc := 193) Xr13 hx hby at_193 205 (feq hs28).2 (by decide) (oiconst Xr13 hx hby at_205 (str14 _ (oiadd Xr14 hx hby at_209 (oistore Xr14 hx hby at_210 (lc15 i0 i1 i2 i3 z1 z2 z3 1 0 1 u1 u2 u3 br4 2 0) rfl (oaload Xr14 hx hby at_212 rfl rfl (oaload Xr14 hx hby at_214 rfl rfl (str15 _ (oiload Xr15 hx hby at_219 rfl k))))))))) ?_
            have f38 : Exa Z Tr8.heap u3 zs0 := (((((Exa.ext Er4 f5).keep Kr5).keep Kr6).keep Kr7).keep Kr8)
            have ne6 : u3 ≠ br4 := Nat.ne_of_lt (Nat.lt_of_lt_of_le (f6.lt) (Nat.le_of_eq gr4.symm))
            have ne7 : u3 ≠ b1 := Nat.ne_of_lt (Nat.lt_of_lt_of_le (Nat.lt_of_lt_of_le (f6.lt) Er4.1) sz1)
            have f39 : Fld Z Tr8.heap u3 zs26 "ordinal" "I" (.int z3) := (((((Fld.ext Er4 f6).keep Kr5 (ninS ne6 nin0)).keep Kr6 (ninS ne7 nin0)).keep Kr7 (ninS ne7 nin0)).keep Kr8 (ninS ne7 nin0))
            have hc29 : ¬ ((i2 &&& (7 : Int32)) = (i0 &&& (7 : Int32))) := (fun e => by have := congrArg Int32.toInt e; have := congrArg Int32.toInt hk27; have : ¬ ((i1 &&& (7 : Int32))).toInt = ((i2 &&& (7 : Int32))).toInt := fun e => hk28 (Int32.toInt_inj.mp e); have := c_and i2 (7 : Int32) (by decide); have := (by decide : ((7 : Int32)).toInt = 7); have := c_and i0 (7 : Int32) (by decide); have := c_and i1 (7 : Int32) (by decide); omega)
            have hs30 : ¬ (z3 = z1) := by rw [hz3, hz1]; exact hc29
            have hc31 : ¬ ((i2 &&& (7 : Int32)) = (i1 &&& (7 : Int32))) := (fun e => by have := congrArg Int32.toInt e; have : ¬ ((i1 &&& (7 : Int32))).toInt = ((i2 &&& (7 : Int32))).toInt := fun e => hk28 (Int32.toInt_inj.mp e); have := c_and i2 (7 : Int32) (by decide); have := (by decide : ((7 : Int32)).toInt = 7); have := c_and i1 (7 : Int32) (by decide); omega)
            have hs32 : ¬ (z3 = z2) := by rw [hz3, hz2]; exact hc31
            obtain ⟨_, Tr16, Lr16, Xr16, hQr16, str16⟩ := ocallV Xr15 hx hZ zm10 zm10 hown (ww hw 86 rfl) (ww hw 87 rfl) (notFace_of_selects (args := #[]) (mvT hZ (ww hw 89 rfl))) (ww hw 89 rfl) (ww hw 88 rfl) (by decide) (ww hw 90 rfl) (ww hw 13 rfl) er15 f34 (rm11_57 l Z a0 hw [] br4 u3 b1 z3 k1 z1 z2 Tr8.heap n0 Z_5 f35 f38 f39 f33 hs12 hs14 hs30 hs32) (st := [(.ref u3), (.ref br4)]) rfl 0 rfl (by decide) (pc := 228) (Ls := (lc15 i0 i1 i2 i3 z1 z2 z3 1 0 1 u1 u2 u3 br4 2 0)) hml rfl (lenOf pd_6 rfl) at_228 hby
            obtain ⟨rfl, Nr16q, er16⟩ := hQr16
            have N15 := Fr.app N14 Nr16q
            refine own_go (U' := Tr16.setTop (mkF m 233 (lc15 i0 i1 i2 i3 z1 z2 z3 1 0 1 u1 u2 u3 br4 2 0) [(.int 0), (.int 0)])) (fun t k => oicN Xr15 hx hby at_221 (by decide) (oaload Xr15 hx hby at_224 rfl rfl (oaload Xr15 hx hby at_226 rfl rfl (str16 _ (oiload Xr16 hx hby at_231 rfl k))))) ?_
            refine own_go (U' := Tr16.setTop (mkF m 241 (lc15 i0 i1 i2 i3 z1 z2 z3 1 0 1 u1 u2 u3 br4 2 0) [(.int 1)])) (fun t k => oicN Xr16 hx hby at_233 (by decide) (oiconst Xr16 hx hby at_236 (ogoto (pc := 237) Xr16 hx hby at_237 241 (by decide) k))) ?_
            obtain ⟨fs, hr, hrun, hended, hW, hsame⟩ := Xr16.leave (v := some (.int 1)) (fun h => by rw [Bd.returns] at h; cases h)
            refine own_out ⟨_, _, ?_, hrun, hended, _, _, rfl, ?_, ⟨_, rfl⟩, hW, hsame.mono (by decide) (by decide)⟩
            · exact retN Xr16 hx (t := .boolean) Bd.returns (by simp) (hb hby at_241) hr
            · exact ⟨rfl, N15⟩
        · have hc33 : ¬ ((i0 &&& (7 : Int32)) = (i1 &&& (7 : Int32))) := hk27
          have hs34 : ¬ (z1 = z2) := by rw [hz2, hz1]; exact hc33
          obtain ⟨_, Tr7, Lr7, Xr7, hQr7, str7⟩ := ocallV Xr6 hx hZ zm7 zm7 hown (ww hw 69 rfl) (ww hw 70 rfl) (notFace_of_selects (args := #[]) (mvT hZ (ww hw 72 rfl))) (ww hw 72 rfl) (ww hw 71 rfl) (by decide) (ww hw 73 rfl) (ww hw 13 rfl) rfl f24 (rm8_48 l Z a0 hw [] br4 u1 b1 z1 k1 z2 Tr6.heap n0 Z_3 f25 f26 f27 f23 hs4 hs6 hs34 g2) (st := [(.int 0), (.ref u1), (.ref br4)]) rfl 0 rfl (by decide) (pc := 102) (Ls := (lc12 i0 i1 i2 i3 z1 z2 z3 1 0 1 u1 u2 u3 br4)) hml rfl (lenOf pd_4 rfl) at_102 hby
          obtain ⟨rfl, Nr7q, Kr7, f28⟩ := hQr7
          have N6 := Fr.app N5 Nr7q
          have f29 : Exa Z Tr7.heap br4 zs22 := (f24.keep Kr7)
          have f30 : Fld Z Tr7.heap br4 zs22 "counts" "[I" (.ref b1) := (f25.keep Kr7 (ninS ne3 nin0))
          have f31 : Exa Z Tr7.heap u1 zs0 := (f26.keep Kr7)
          have f32 : Fld Z Tr7.heap u1 zs26 "ordinal" "I" (.int z1) := (f27.keep Kr7 (ninS ne5 nin0))
          have Z_4 : n0 ≤ Tr7.heap.size := Nat.le_trans Z_3 Kr7.1
          obtain ⟨_, Tr8, Lr8, Xr8, hQr8, str8⟩ := ocallV Xr7 hx hZ zm7 zm7 hown (ww hw 69 rfl) (ww hw 70 rfl) (notFace_of_selects (args := #[]) (mvT hZ (ww hw 72 rfl))) (ww hw 72 rfl) (ww hw 71 rfl) (by decide) (ww hw 73 rfl) (ww hw 13 rfl) rfl f29 (rm8_58 l Z a0 hw [] br4 u1 b1 z1 k1 z2 Tr7.heap n0 Z_4 f30 f31 f32 f28 hs4 hs6 g2) (st := [(.int 1), (.ref u1), (.ref br4)]) rfl 0 rfl (by decide) (pc := 111) (Ls := (lc12 i0 i1 i2 i3 z1 z2 z3 1 0 1 u1 u2 u3 br4)) hml rfl (lenOf pd_4 rfl) at_111 hby
          obtain ⟨rfl, Nr8q, Kr8, f33⟩ := hQr8
          have N7 := Fr.app N6 Nr8q
          refine own_go (U' := Tr8.setTop (mkF m 118 (lc12 i0 i1 i2 i3 z1 z2 z3 1 0 1 u1 u2 u3 br4) [(.int z1), (.int z2)])) (fun t k => oastore Xr3 hx hby at_76 (lc9 i0 i1 i2 i3 z1 z2 z3 1 0 1 u1 u2 u3) rfl rfl (str4 _ (odup Xr4 hx hby at_81 rfl (str5 _ (oastore Xr5 hx hby at_85 (lc12 i0 i1 i2 i3 z1 z2 z3 1 0 1 u1 u2 u3 br4) rfl rfl (oaload Xr5 hx hby at_87 rfl rfl (oaload Xr5 hx hby at_89 rfl rfl (oiload Xr5 hx hby at_91 rfl (str6 _ (oaload Xr6 hx hby at_96 rfl rfl (oaload Xr6 hx hby at_98 rfl rfl (oiload Xr6 hx hby at_100 rfl (str7 _ (oaload Xr7 hx hby at_105 rfl rfl (oaload Xr7 hx hby at_107 rfl rfl (oiload Xr7 hx hby at_109 rfl (str8 _ (oiload Xr8 hx hby at_114 rfl (oiload Xr8 hx hby at_116 rfl k))))))))))))))))))) ?_
          have Z_5 : n0 ≤ Tr8.heap.size := Nat.le_trans Z_4 Kr8.1
          obtain ⟨_, Tr9, Lr9, Xr9, hQr9, str9⟩ := ocallS Xr8 hx hZ zm9 hown (ww hw 83 rfl) (ww hw 84 rfl) (by decide) (ww hw 85 rfl) (ww hw 2 rfl) rfl (rm10_18 l Z a0 hw []  Tr8.heap n0 Z_5 ) (st := [(.int 0)]) rfl 0 rfl (by decide) (pc := 131) (Ls := (lc12 i0 i1 i2 i3 z1 z2 z3 1 0 1 u1 u2 u3 br4)) hml rfl (lenOf pd_5 rfl) at_131 hby
          obtain ⟨rfl, Nr9q, er9⟩ := hQr9
          have N8 := Fr.app N7 Nr9q
          obtain ⟨_, Tr10, Lr10, Xr10, hQr10, str10⟩ := ocallS Xr9 hx hZ zm9 hown (ww hw 83 rfl) (ww hw 84 rfl) (by decide) (ww hw 85 rfl) (ww hw 2 rfl) er9 (rm10_18 l Z a0 hw []  Tr8.heap n0 Z_5 ) (st := [(.int 0), (.int 0)]) rfl 1 rfl (by decide) (pc := 136) (Ls := (lc12 i0 i1 i2 i3 z1 z2 z3 1 0 1 u1 u2 u3 br4)) hml rfl (lenOf pd_5 rfl) at_136 hby
          obtain ⟨rfl, Nr10q, er10⟩ := hQr10
          have N9 := Fr.app N8 Nr10q
          obtain ⟨_, Tr11, Lr11, Xr11, hQr11, str11⟩ := ocallS Xr10 hx hZ zm9 hown (ww hw 83 rfl) (ww hw 84 rfl) (by decide) (ww hw 85 rfl) (ww hw 2 rfl) er10 (rm10_25 l Z a0 hw []  Tr8.heap n0 Z_5 ) (st := [(.int 1), (.int 0)]) rfl 1 rfl (by decide) (pc := 142) (Ls := (lc12 i0 i1 i2 i3 z1 z2 z3 1 0 1 u1 u2 u3 br4)) hml rfl (lenOf pd_5 rfl) at_142 hby
          obtain ⟨rfl, Nr11q, er11⟩ := hQr11
          have N10 := Fr.app N9 Nr11q
          have hc35 : ¬ ((i1 &&& (7 : Int32)) = (i0 &&& (7 : Int32))) := (fun e => by have := congrArg Int32.toInt e; have : ¬ ((i0 &&& (7 : Int32))).toInt = ((i1 &&& (7 : Int32))).toInt := fun e => hk27 (Int32.toInt_inj.mp e); have := c_and i1 (7 : Int32) (by decide); have := (by decide : ((7 : Int32)).toInt = 7); have := c_and i0 (7 : Int32) (by decide); omega)
          have hs36 : ¬ (z2 = z1) := by rw [hz2, hz1]; exact hc35
          refine own_go (U' := Tr11.setTop (mkF m 152 (lc14 i0 i1 i2 i3 z1 z2 z3 1 0 1 u1 u2 u3 br4 1) [(.int z3), (.int z2)])) (fun t k => oicY (pc := 118) Xr8 hx hby at_118 130 (feq hs36).2 (by decide) (oiconst Xr8 hx hby at_130 (str9 _ (oiload Xr9 hx hby at_134 rfl (str10 _ (oiadd Xr10 hx hby at_139 (oiload Xr10 hx hby at_140 rfl (str11 _ (oiadd Xr11 hx hby at_145 (oistore Xr11 hx hby at_146 (lc14 i0 i1 i2 i3 z1 z2 z3 1 0 1 u1 u2 u3 br4 1) rfl (oiload Xr11 hx hby at_148 rfl (oiload Xr11 hx hby at_150 rfl k)))))))))))) ?_
          by_cases hk29 : (i1 &&& (7 : Int32)) = (i2 &&& (7 : Int32))
          · have hc19 : (i1 &&& (7 : Int32)) = (i2 &&& (7 : Int32)) := hk29
            have hs20 : z2 = z3 := by rw [hz3, hz2]; exact hc19
            refine own_go (U' := Tr11.setTop (mkF m 157 (lc14 i0 i1 i2 i3 z1 z2 z3 1 0 1 u1 u2 u3 br4 1) [(.int 1)])) (fun t k => oicN Xr11 hx hby at_152 (teq hs20).2 (oiload Xr11 hx hby at_155 rfl k)) ?_
            obtain ⟨_, Tr12, Lr12, Xr12, hQr12, str12⟩ := ocallS Xr11 hx hZ zm9 hown (ww hw 83 rfl) (ww hw 84 rfl) (by decide) (ww hw 85 rfl) (ww hw 2 rfl) er11 (rm10_25 l Z a0 hw []  Tr8.heap n0 Z_5 ) (st := [(.int 1)]) rfl 0 rfl (by decide) (pc := 165) (Ls := (lc14 i0 i1 i2 i3 z1 z2 z3 1 0 1 u1 u2 u3 br4 1)) hml rfl (lenOf pd_5 rfl) at_165 hby
            obtain ⟨rfl, Nr12q, er12⟩ := hQr12
            have N11 := Fr.app N10 Nr12q
            refine own_go (U' := Tr12.setTop (mkF m 172 (lc14 i0 i1 i2 i3 z1 z2 z3 1 0 1 u1 u2 u3 br4 1) [(.int z3), (.int z1), (.int 1)])) (fun t k => oifN Xr11 hx hby at_157 (by decide) (oiconst Xr11 hx hby at_160 (ogoto (pc := 161) Xr11 hx hby at_161 165 (by decide) (str12 _ (oiload Xr12 hx hby at_168 rfl (oiload Xr12 hx hby at_170 rfl k)))))) ?_
            obtain ⟨_, Tr13, Lr13, Xr13, hQr13, str13⟩ := ocallS Xr12 hx hZ zm9 hown (ww hw 83 rfl) (ww hw 84 rfl) (by decide) (ww hw 85 rfl) (ww hw 2 rfl) er12 (rm10_18 l Z a0 hw []  Tr8.heap n0 Z_5 ) (st := [(.int 0), (.int 1)]) rfl 1 rfl (by decide) (pc := 185) (Ls := (lc14 i0 i1 i2 i3 z1 z2 z3 1 0 1 u1 u2 u3 br4 1)) hml rfl (lenOf pd_5 rfl) at_185 hby
            obtain ⟨rfl, Nr13q, er13⟩ := hQr13
            have N12 := Fr.app N11 Nr13q
            have hc27 : ¬ ((i0 &&& (7 : Int32)) = (i2 &&& (7 : Int32))) := (fun e => by have := congrArg Int32.toInt e; have : ¬ ((i0 &&& (7 : Int32))).toInt = ((i1 &&& (7 : Int32))).toInt := fun e => hk27 (Int32.toInt_inj.mp e); have := congrArg Int32.toInt hk29; have := c_and i0 (7 : Int32) (by decide); have := (by decide : ((7 : Int32)).toInt = 7); have := c_and i2 (7 : Int32) (by decide); have := c_and i1 (7 : Int32) (by decide); omega)
            have hs28 : ¬ (z1 = z3) := by rw [hz3, hz1]; exact hc27
            refine own_go (U' := Tr13.setTop (mkF m 193 (lc14 i0 i1 i2 i3 z1 z2 z3 1 0 1 u1 u2 u3 br4 1) [(.int z3), (.int z1), (.int 1)])) (fun t k => oicY (pc := 172) Xr12 hx hby at_172 184 (feq hs28).2 (by decide) (oiconst Xr12 hx hby at_184 (str13 _ (oiadd Xr13 hx hby at_188 (oiload Xr13 hx hby at_189 rfl (oiload Xr13 hx hby at_191 rfl k)))))) ?_
            obtain ⟨_, Tr14, Lr14, Xr14, hQr14, str14⟩ := ocallS Xr13 hx hZ zm9 hown (ww hw 83 rfl) (ww hw 84 rfl) (by decide) (ww hw 85 rfl) (ww hw 2 rfl) er13 (rm10_18 l Z a0 hw []  Tr8.heap n0 Z_5 ) (st := [(.int 0), (.int 1)]) rfl 1 rfl (by decide) (pc := 206) (Ls := (lc14 i0 i1 i2 i3 z1 z2 z3 1 0 1 u1 u2 u3 br4 1)) hml rfl (lenOf pd_5 rfl) at_206 hby
            obtain ⟨rfl, Nr14q, er14⟩ := hQr14
            have N13 := Fr.app N12 Nr14q
            have f34 : Exa Z Tr8.heap br4 zs22 := (f29.keep Kr8)
            have f35 : Fld Z Tr8.heap br4 zs22 "counts" "[I" (.ref b1) := (f30.keep Kr8 (ninS ne3 nin0))
            have f36 : Exa Z Tr8.heap u1 zs0 := (f31.keep Kr8)
            have f37 : Fld Z Tr8.heap u1 zs26 "ordinal" "I" (.int z1) := (f32.keep Kr8 (ninS ne5 nin0))
            obtain ⟨_, Tr15, Lr15, Xr15, hQr15, str15⟩ := ocallV Xr14 hx hZ zm10 zm10 hown (ww hw 86 rfl) (ww hw 87 rfl) (notFace_of_selects (args := #[]) (mvT hZ (ww hw 89 rfl))) (ww hw 89 rfl) (ww hw 88 rfl) (by decide) (ww hw 90 rfl) (ww hw 13 rfl) er14 f34 (rm11_59 l Z a0 hw [] br4 u1 b1 z1 k1 z2 Tr8.heap n0 Z_5 f35 f36 f37 f33 hs4 hs6) (st := [(.ref u1), (.ref br4)]) rfl 0 rfl (by decide) (pc := 216) (Ls := (lc15 i0 i1 i2 i3 z1 z2 z3 1 0 1 u1 u2 u3 br4 1 1)) hml rfl (lenOf pd_6 rfl) at_216 hby
            obtain ⟨rfl, Nr15q, er15⟩ := hQr15
            have N14 := Fr.app N13 Nr15q
            refine own_go (U' := Tr15.setTop (mkF m 221 (lc15 i0 i1 i2 i3 z1 z2 z3 1 0 1 u1 u2 u3 br4 1 1) [(.int 1), (.int 1)])) (fun t k => oicY (pc := 193) Xr13 hx hby at_193 205 (feq hs28).2 (by decide) (oiconst Xr13 hx hby at_205 (str14 _ (oiadd Xr14 hx hby at_209 (oistore Xr14 hx hby at_210 (lc15 i0 i1 i2 i3 z1 z2 z3 1 0 1 u1 u2 u3 br4 1 1) rfl (oaload Xr14 hx hby at_212 rfl rfl (oaload Xr14 hx hby at_214 rfl rfl (str15 _ (oiload Xr15 hx hby at_219 rfl k))))))))) ?_
            have f38 : Exa Z Tr8.heap u3 zs0 := (((((Exa.ext Er4 f5).keep Kr5).keep Kr6).keep Kr7).keep Kr8)
            have ne6 : u3 ≠ br4 := Nat.ne_of_lt (Nat.lt_of_lt_of_le (f6.lt) (Nat.le_of_eq gr4.symm))
            have ne7 : u3 ≠ b1 := Nat.ne_of_lt (Nat.lt_of_lt_of_le (Nat.lt_of_lt_of_le (f6.lt) Er4.1) sz1)
            have f39 : Fld Z Tr8.heap u3 zs26 "ordinal" "I" (.int z3) := (((((Fld.ext Er4 f6).keep Kr5 (ninS ne6 nin0)).keep Kr6 (ninS ne7 nin0)).keep Kr7 (ninS ne7 nin0)).keep Kr8 (ninS ne7 nin0))
            have hc29 : ¬ ((i2 &&& (7 : Int32)) = (i0 &&& (7 : Int32))) := (fun e => by have := congrArg Int32.toInt e; have : ¬ ((i0 &&& (7 : Int32))).toInt = ((i1 &&& (7 : Int32))).toInt := fun e => hk27 (Int32.toInt_inj.mp e); have := congrArg Int32.toInt hk29; have := c_and i2 (7 : Int32) (by decide); have := (by decide : ((7 : Int32)).toInt = 7); have := c_and i0 (7 : Int32) (by decide); have := c_and i1 (7 : Int32) (by decide); omega)
            have hs30 : ¬ (z3 = z1) := by rw [hz3, hz1]; exact hc29
            have hc37 : (i2 &&& (7 : Int32)) = (i1 &&& (7 : Int32)) := (Int32.toInt_inj.mp (by have := congrArg Int32.toInt hk29; have := c_and i2 (7 : Int32) (by decide); have := (by decide : ((7 : Int32)).toInt = 7); have := c_and i1 (7 : Int32) (by decide); omega))
            have hs38 : z3 = z2 := by rw [hz3, hz2]; exact hc37
            obtain ⟨_, Tr16, Lr16, Xr16, hQr16, str16⟩ := ocallV Xr15 hx hZ zm10 zm10 hown (ww hw 86 rfl) (ww hw 87 rfl) (notFace_of_selects (args := #[]) (mvT hZ (ww hw 89 rfl))) (ww hw 89 rfl) (ww hw 88 rfl) (by decide) (ww hw 90 rfl) (ww hw 13 rfl) er15 f34 (rm11_60 l Z a0 hw [] br4 u3 b1 z3 k1 z1 z2 Tr8.heap n0 Z_5 f35 f38 f39 f33 hs12 hs14 hs30 hs38) (st := [(.ref u3), (.ref br4)]) rfl 0 rfl (by decide) (pc := 228) (Ls := (lc15 i0 i1 i2 i3 z1 z2 z3 1 0 1 u1 u2 u3 br4 1 1)) hml rfl (lenOf pd_6 rfl) at_228 hby
            obtain ⟨rfl, Nr16q, er16⟩ := hQr16
            have N15 := Fr.app N14 Nr16q
            refine own_go (U' := Tr16.setTop (mkF m 233 (lc15 i0 i1 i2 i3 z1 z2 z3 1 0 1 u1 u2 u3 br4 1 1) [(.int 1), (.int 1)])) (fun t k => oicN Xr15 hx hby at_221 (by decide) (oaload Xr15 hx hby at_224 rfl rfl (oaload Xr15 hx hby at_226 rfl rfl (str16 _ (oiload Xr16 hx hby at_231 rfl k))))) ?_
            refine own_go (U' := Tr16.setTop (mkF m 241 (lc15 i0 i1 i2 i3 z1 z2 z3 1 0 1 u1 u2 u3 br4 1 1) [(.int 1)])) (fun t k => oicN Xr16 hx hby at_233 (by decide) (oiconst Xr16 hx hby at_236 (ogoto (pc := 237) Xr16 hx hby at_237 241 (by decide) k))) ?_
            obtain ⟨fs, hr, hrun, hended, hW, hsame⟩ := Xr16.leave (v := some (.int 1)) (fun h => by rw [Bd.returns] at h; cases h)
            refine own_out ⟨_, _, ?_, hrun, hended, _, _, rfl, ?_, ⟨_, rfl⟩, hW, hsame.mono (by decide) (by decide)⟩
            · exact retN Xr16 hx (t := .boolean) Bd.returns (by simp) (hb hby at_241) hr
            · exact ⟨rfl, N15⟩
          · obtain ⟨_, Tr12, Lr12, Xr12, hQr12, str12⟩ := ocallS Xr11 hx hZ zm9 hown (ww hw 83 rfl) (ww hw 84 rfl) (by decide) (ww hw 85 rfl) (ww hw 2 rfl) er11 (rm10_18 l Z a0 hw []  Tr8.heap n0 Z_5 ) (st := [(.int 0)]) rfl 0 rfl (by decide) (pc := 165) (Ls := (lc14 i0 i1 i2 i3 z1 z2 z3 1 0 1 u1 u2 u3 br4 1)) hml rfl (lenOf pd_5 rfl) at_165 hby
            obtain ⟨rfl, Nr12q, er12⟩ := hQr12
            have N11 := Fr.app N10 Nr12q
            have hc25 : ¬ ((i1 &&& (7 : Int32)) = (i2 &&& (7 : Int32))) := hk29
            have hs26 : ¬ (z2 = z3) := by rw [hz3, hz2]; exact hc25
            refine own_go (U' := Tr12.setTop (mkF m 172 (lc14 i0 i1 i2 i3 z1 z2 z3 1 0 1 u1 u2 u3 br4 1) [(.int z3), (.int z1), (.int 0)])) (fun t k => oicY (pc := 152) Xr11 hx hby at_152 164 (feq hs26).2 (by decide) (oiconst Xr11 hx hby at_164 (str12 _ (oiload Xr12 hx hby at_168 rfl (oiload Xr12 hx hby at_170 rfl k))))) ?_
            by_cases hk30 : (i0 &&& (7 : Int32)) = (i2 &&& (7 : Int32))
            · have hc21 : (i0 &&& (7 : Int32)) = (i2 &&& (7 : Int32)) := hk30
              have hs22 : z1 = z3 := by rw [hz3, hz1]; exact hc21
              refine own_go (U' := Tr12.setTop (mkF m 177 (lc14 i0 i1 i2 i3 z1 z2 z3 1 0 1 u1 u2 u3 br4 1) [(.int 0), (.int 0)])) (fun t k => oicN Xr12 hx hby at_172 (teq hs22).2 (oiload Xr12 hx hby at_175 rfl k)) ?_
              obtain ⟨_, Tr13, Lr13, Xr13, hQr13, str13⟩ := ocallS Xr12 hx hZ zm9 hown (ww hw 83 rfl) (ww hw 84 rfl) (by decide) (ww hw 85 rfl) (ww hw 2 rfl) er12 (rm10_18 l Z a0 hw []  Tr8.heap n0 Z_5 ) (st := [(.int 0), (.int 0)]) rfl 1 rfl (by decide) (pc := 185) (Ls := (lc14 i0 i1 i2 i3 z1 z2 z3 1 0 1 u1 u2 u3 br4 1)) hml rfl (lenOf pd_5 rfl) at_185 hby
              obtain ⟨rfl, Nr13q, er13⟩ := hQr13
              have N12 := Fr.app N11 Nr13q
              refine own_go (U' := Tr13.setTop (mkF m 193 (lc14 i0 i1 i2 i3 z1 z2 z3 1 0 1 u1 u2 u3 br4 1) [(.int z3), (.int z1), (.int 0)])) (fun t k => oifY (pc := 177) Xr12 hx hby at_177 184 (by decide) (by decide) (oiconst Xr12 hx hby at_184 (str13 _ (oiadd Xr13 hx hby at_188 (oiload Xr13 hx hby at_189 rfl (oiload Xr13 hx hby at_191 rfl k)))))) ?_
              refine own_go (U' := Tr13.setTop (mkF m 198 (lc14 i0 i1 i2 i3 z1 z2 z3 1 0 1 u1 u2 u3 br4 1) [(.int 1), (.int 0)])) (fun t k => oicN Xr13 hx hby at_193 (teq hs22).2 (oiload Xr13 hx hby at_196 rfl k)) ?_
              obtain ⟨_, Tr14, Lr14, Xr14, hQr14, str14⟩ := ocallS Xr13 hx hZ zm9 hown (ww hw 83 rfl) (ww hw 84 rfl) (by decide) (ww hw 85 rfl) (ww hw 2 rfl) er13 (rm10_25 l Z a0 hw []  Tr8.heap n0 Z_5 ) (st := [(.int 1), (.int 0)]) rfl 1 rfl (by decide) (pc := 206) (Ls := (lc14 i0 i1 i2 i3 z1 z2 z3 1 0 1 u1 u2 u3 br4 1)) hml rfl (lenOf pd_5 rfl) at_206 hby
              obtain ⟨rfl, Nr14q, er14⟩ := hQr14
              have N13 := Fr.app N12 Nr14q
              have f34 : Exa Z Tr8.heap br4 zs22 := (f29.keep Kr8)
              have f35 : Fld Z Tr8.heap br4 zs22 "counts" "[I" (.ref b1) := (f30.keep Kr8 (ninS ne3 nin0))
              have f36 : Exa Z Tr8.heap u1 zs0 := (f31.keep Kr8)
              have f37 : Fld Z Tr8.heap u1 zs26 "ordinal" "I" (.int z1) := (f32.keep Kr8 (ninS ne5 nin0))
              obtain ⟨_, Tr15, Lr15, Xr15, hQr15, str15⟩ := ocallV Xr14 hx hZ zm10 zm10 hown (ww hw 86 rfl) (ww hw 87 rfl) (notFace_of_selects (args := #[]) (mvT hZ (ww hw 89 rfl))) (ww hw 89 rfl) (ww hw 88 rfl) (by decide) (ww hw 90 rfl) (ww hw 13 rfl) er14 f34 (rm11_59 l Z a0 hw [] br4 u1 b1 z1 k1 z2 Tr8.heap n0 Z_5 f35 f36 f37 f33 hs4 hs6) (st := [(.ref u1), (.ref br4)]) rfl 0 rfl (by decide) (pc := 216) (Ls := (lc15 i0 i1 i2 i3 z1 z2 z3 1 0 1 u1 u2 u3 br4 1 1)) hml rfl (lenOf pd_6 rfl) at_216 hby
              obtain ⟨rfl, Nr15q, er15⟩ := hQr15
              have N14 := Fr.app N13 Nr15q
              refine own_go (U' := Tr15.setTop (mkF m 221 (lc15 i0 i1 i2 i3 z1 z2 z3 1 0 1 u1 u2 u3 br4 1 1) [(.int 1), (.int 1)])) (fun t k => oifN Xr13 hx hby at_198 (by decide) (oiconst Xr13 hx hby at_201 (ogoto (pc := 202) Xr13 hx hby at_202 206 (by decide) (str14 _ (oiadd Xr14 hx hby at_209 (oistore Xr14 hx hby at_210 (lc15 i0 i1 i2 i3 z1 z2 z3 1 0 1 u1 u2 u3 br4 1 1) rfl (oaload Xr14 hx hby at_212 rfl rfl (oaload Xr14 hx hby at_214 rfl rfl (str15 _ (oiload Xr15 hx hby at_219 rfl k)))))))))) ?_
              have f38 : Exa Z Tr8.heap u3 zs0 := (((((Exa.ext Er4 f5).keep Kr5).keep Kr6).keep Kr7).keep Kr8)
              have ne6 : u3 ≠ br4 := Nat.ne_of_lt (Nat.lt_of_lt_of_le (f6.lt) (Nat.le_of_eq gr4.symm))
              have ne7 : u3 ≠ b1 := Nat.ne_of_lt (Nat.lt_of_lt_of_le (Nat.lt_of_lt_of_le (f6.lt) Er4.1) sz1)
              have f39 : Fld Z Tr8.heap u3 zs26 "ordinal" "I" (.int z3) := (((((Fld.ext Er4 f6).keep Kr5 (ninS ne6 nin0)).keep Kr6 (ninS ne7 nin0)).keep Kr7 (ninS ne7 nin0)).keep Kr8 (ninS ne7 nin0))
              have hc23 : (i2 &&& (7 : Int32)) = (i0 &&& (7 : Int32)) := (Int32.toInt_inj.mp (by have := congrArg Int32.toInt hk30; have := c_and i2 (7 : Int32) (by decide); have := (by decide : ((7 : Int32)).toInt = 7); have := c_and i0 (7 : Int32) (by decide); omega))
              have hs24 : z3 = z1 := by rw [hz3, hz1]; exact hc23
              obtain ⟨_, Tr16, Lr16, Xr16, hQr16, str16⟩ := ocallV Xr15 hx hZ zm10 zm10 hown (ww hw 86 rfl) (ww hw 87 rfl) (notFace_of_selects (args := #[]) (mvT hZ (ww hw 89 rfl))) (ww hw 89 rfl) (ww hw 88 rfl) (by decide) (ww hw 90 rfl) (ww hw 13 rfl) er15 f34 (rm11_61 l Z a0 hw [] br4 u3 b1 z3 k1 z1 z2 Tr8.heap n0 Z_5 f35 f38 f39 f33 hs12 hs14 hs24) (st := [(.ref u3), (.ref br4)]) rfl 0 rfl (by decide) (pc := 228) (Ls := (lc15 i0 i1 i2 i3 z1 z2 z3 1 0 1 u1 u2 u3 br4 1 1)) hml rfl (lenOf pd_6 rfl) at_228 hby
              obtain ⟨rfl, Nr16q, er16⟩ := hQr16
              have N15 := Fr.app N14 Nr16q
              refine own_go (U' := Tr16.setTop (mkF m 233 (lc15 i0 i1 i2 i3 z1 z2 z3 1 0 1 u1 u2 u3 br4 1 1) [(.int 1), (.int 1)])) (fun t k => oicN Xr15 hx hby at_221 (by decide) (oaload Xr15 hx hby at_224 rfl rfl (oaload Xr15 hx hby at_226 rfl rfl (str16 _ (oiload Xr16 hx hby at_231 rfl k))))) ?_
              refine own_go (U' := Tr16.setTop (mkF m 241 (lc15 i0 i1 i2 i3 z1 z2 z3 1 0 1 u1 u2 u3 br4 1 1) [(.int 1)])) (fun t k => oicN Xr16 hx hby at_233 (by decide) (oiconst Xr16 hx hby at_236 (ogoto (pc := 237) Xr16 hx hby at_237 241 (by decide) k))) ?_
              obtain ⟨fs, hr, hrun, hended, hW, hsame⟩ := Xr16.leave (v := some (.int 1)) (fun h => by rw [Bd.returns] at h; cases h)
              refine own_out ⟨_, _, ?_, hrun, hended, _, _, rfl, ?_, ⟨_, rfl⟩, hW, hsame.mono (by decide) (by decide)⟩
              · exact retN Xr16 hx (t := .boolean) Bd.returns (by simp) (hb hby at_241) hr
              · exact ⟨rfl, N15⟩
            · obtain ⟨_, Tr13, Lr13, Xr13, hQr13, str13⟩ := ocallS Xr12 hx hZ zm9 hown (ww hw 83 rfl) (ww hw 84 rfl) (by decide) (ww hw 85 rfl) (ww hw 2 rfl) er12 (rm10_18 l Z a0 hw []  Tr8.heap n0 Z_5 ) (st := [(.int 0), (.int 0)]) rfl 1 rfl (by decide) (pc := 185) (Ls := (lc14 i0 i1 i2 i3 z1 z2 z3 1 0 1 u1 u2 u3 br4 1)) hml rfl (lenOf pd_5 rfl) at_185 hby
              obtain ⟨rfl, Nr13q, er13⟩ := hQr13
              have N12 := Fr.app N11 Nr13q
              have hc27 : ¬ ((i0 &&& (7 : Int32)) = (i2 &&& (7 : Int32))) := hk30
              have hs28 : ¬ (z1 = z3) := by rw [hz3, hz1]; exact hc27
              refine own_go (U' := Tr13.setTop (mkF m 193 (lc14 i0 i1 i2 i3 z1 z2 z3 1 0 1 u1 u2 u3 br4 1) [(.int z3), (.int z1), (.int 0)])) (fun t k => oicY (pc := 172) Xr12 hx hby at_172 184 (feq hs28).2 (by decide) (oiconst Xr12 hx hby at_184 (str13 _ (oiadd Xr13 hx hby at_188 (oiload Xr13 hx hby at_189 rfl (oiload Xr13 hx hby at_191 rfl k)))))) ?_
              obtain ⟨_, Tr14, Lr14, Xr14, hQr14, str14⟩ := ocallS Xr13 hx hZ zm9 hown (ww hw 83 rfl) (ww hw 84 rfl) (by decide) (ww hw 85 rfl) (ww hw 2 rfl) er13 (rm10_18 l Z a0 hw []  Tr8.heap n0 Z_5 ) (st := [(.int 0), (.int 0)]) rfl 1 rfl (by decide) (pc := 206) (Ls := (lc14 i0 i1 i2 i3 z1 z2 z3 1 0 1 u1 u2 u3 br4 1)) hml rfl (lenOf pd_5 rfl) at_206 hby
              obtain ⟨rfl, Nr14q, er14⟩ := hQr14
              have N13 := Fr.app N12 Nr14q
              have f34 : Exa Z Tr8.heap br4 zs22 := (f29.keep Kr8)
              have f35 : Fld Z Tr8.heap br4 zs22 "counts" "[I" (.ref b1) := (f30.keep Kr8 (ninS ne3 nin0))
              have f36 : Exa Z Tr8.heap u1 zs0 := (f31.keep Kr8)
              have f37 : Fld Z Tr8.heap u1 zs26 "ordinal" "I" (.int z1) := (f32.keep Kr8 (ninS ne5 nin0))
              obtain ⟨_, Tr15, Lr15, Xr15, hQr15, str15⟩ := ocallV Xr14 hx hZ zm10 zm10 hown (ww hw 86 rfl) (ww hw 87 rfl) (notFace_of_selects (args := #[]) (mvT hZ (ww hw 89 rfl))) (ww hw 89 rfl) (ww hw 88 rfl) (by decide) (ww hw 90 rfl) (ww hw 13 rfl) er14 f34 (rm11_59 l Z a0 hw [] br4 u1 b1 z1 k1 z2 Tr8.heap n0 Z_5 f35 f36 f37 f33 hs4 hs6) (st := [(.ref u1), (.ref br4)]) rfl 0 rfl (by decide) (pc := 216) (Ls := (lc15 i0 i1 i2 i3 z1 z2 z3 1 0 1 u1 u2 u3 br4 1 0)) hml rfl (lenOf pd_6 rfl) at_216 hby
              obtain ⟨rfl, Nr15q, er15⟩ := hQr15
              have N14 := Fr.app N13 Nr15q
              refine own_go (U' := Tr15.setTop (mkF m 221 (lc15 i0 i1 i2 i3 z1 z2 z3 1 0 1 u1 u2 u3 br4 1 0) [(.int 1), (.int 1)])) (fun t k => oicY (pc := 193) Xr13 hx hby at_193 205 (feq hs28).2 (by decide) (oiconst Xr13 hx hby at_205 (str14 _ (oiadd Xr14 hx hby at_209 (oistore Xr14 hx hby at_210 (lc15 i0 i1 i2 i3 z1 z2 z3 1 0 1 u1 u2 u3 br4 1 0) rfl (oaload Xr14 hx hby at_212 rfl rfl (oaload Xr14 hx hby at_214 rfl rfl (str15 _ (oiload Xr15 hx hby at_219 rfl k))))))))) ?_
              have f38 : Exa Z Tr8.heap u3 zs0 := (((((Exa.ext Er4 f5).keep Kr5).keep Kr6).keep Kr7).keep Kr8)
              have ne6 : u3 ≠ br4 := Nat.ne_of_lt (Nat.lt_of_lt_of_le (f6.lt) (Nat.le_of_eq gr4.symm))
              have ne7 : u3 ≠ b1 := Nat.ne_of_lt (Nat.lt_of_lt_of_le (Nat.lt_of_lt_of_le (f6.lt) Er4.1) sz1)
              have f39 : Fld Z Tr8.heap u3 zs26 "ordinal" "I" (.int z3) := (((((Fld.ext Er4 f6).keep Kr5 (ninS ne6 nin0)).keep Kr6 (ninS ne7 nin0)).keep Kr7 (ninS ne7 nin0)).keep Kr8 (ninS ne7 nin0))
              have hc29 : ¬ ((i2 &&& (7 : Int32)) = (i0 &&& (7 : Int32))) := (fun e => by have := congrArg Int32.toInt e; have : ¬ ((i0 &&& (7 : Int32))).toInt = ((i2 &&& (7 : Int32))).toInt := fun e => hk30 (Int32.toInt_inj.mp e); have := c_and i2 (7 : Int32) (by decide); have := (by decide : ((7 : Int32)).toInt = 7); have := c_and i0 (7 : Int32) (by decide); omega)
              have hs30 : ¬ (z3 = z1) := by rw [hz3, hz1]; exact hc29
              have hc31 : ¬ ((i2 &&& (7 : Int32)) = (i1 &&& (7 : Int32))) := (fun e => by have := congrArg Int32.toInt e; have : ¬ ((i1 &&& (7 : Int32))).toInt = ((i2 &&& (7 : Int32))).toInt := fun e => hk29 (Int32.toInt_inj.mp e); have := c_and i2 (7 : Int32) (by decide); have := (by decide : ((7 : Int32)).toInt = 7); have := c_and i1 (7 : Int32) (by decide); omega)
              have hs32 : ¬ (z3 = z2) := by rw [hz3, hz2]; exact hc31
              obtain ⟨_, Tr16, Lr16, Xr16, hQr16, str16⟩ := ocallV Xr15 hx hZ zm10 zm10 hown (ww hw 86 rfl) (ww hw 87 rfl) (notFace_of_selects (args := #[]) (mvT hZ (ww hw 89 rfl))) (ww hw 89 rfl) (ww hw 88 rfl) (by decide) (ww hw 90 rfl) (ww hw 13 rfl) er15 f34 (rm11_62 l Z a0 hw [] br4 u3 b1 z3 k1 z1 z2 Tr8.heap n0 Z_5 f35 f38 f39 f33 hs12 hs14 hs30 hs32) (st := [(.ref u3), (.ref br4)]) rfl 0 rfl (by decide) (pc := 228) (Ls := (lc15 i0 i1 i2 i3 z1 z2 z3 1 0 1 u1 u2 u3 br4 1 0)) hml rfl (lenOf pd_6 rfl) at_228 hby
              obtain ⟨rfl, Nr16q, er16⟩ := hQr16
              have N15 := Fr.app N14 Nr16q
              refine own_go (U' := Tr16.setTop (mkF m 233 (lc15 i0 i1 i2 i3 z1 z2 z3 1 0 1 u1 u2 u3 br4 1 0) [(.int 0), (.int 0)])) (fun t k => oicN Xr15 hx hby at_221 (by decide) (oaload Xr15 hx hby at_224 rfl rfl (oaload Xr15 hx hby at_226 rfl rfl (str16 _ (oiload Xr16 hx hby at_231 rfl k))))) ?_
              refine own_go (U' := Tr16.setTop (mkF m 241 (lc15 i0 i1 i2 i3 z1 z2 z3 1 0 1 u1 u2 u3 br4 1 0) [(.int 1)])) (fun t k => oicN Xr16 hx hby at_233 (by decide) (oiconst Xr16 hx hby at_236 (ogoto (pc := 237) Xr16 hx hby at_237 241 (by decide) k))) ?_
              obtain ⟨fs, hr, hrun, hended, hW, hsame⟩ := Xr16.leave (v := some (.int 1)) (fun h => by rw [Bd.returns] at h; cases h)
              refine own_out ⟨_, _, ?_, hrun, hended, _, _, rfl, ?_, ⟨_, rfl⟩, hW, hsame.mono (by decide) (by decide)⟩
              · exact retN Xr16 hx (t := .boolean) Bd.returns (by simp) (hb hby at_241) hr
              · exact ⟨rfl, N15⟩
    · have hc40 : ¬ ((i3 &&& (2 : Int32)) = (0 : Int32)) := hk21
      refine own_go (U' := s₁.setTop (mkF m 47 (lc4 i0 i1 i2 i3 z1 z2 z3 1 1) [(.int (i3 &&& (4 : Int32)))])) (fun t k => oifN X0 hx hby at_34 ((if0 _ _).trans (feq hc40).1) (oiconst X0 hx hby at_37 (ogoto (pc := 38) X0 hx hby at_38 42 (by decide) (oistore X0 hx hby at_42 (lc4 i0 i1 i2 i3 z1 z2 z3 1 1) rfl (oiloadN X0 hx hby at_44 rfl (oiconst X0 hx hby at_45 (oiand X0 hx hby at_46 k))))))) ?_
      by_cases hk31 : (i3 &&& (4 : Int32)) = (0 : Int32)
      · obtain ⟨_, Tr1, Lr1, Xr1, hQr1, str1⟩ := ocallS X0 hx hZ zm0 hown (ww hw 0 rfl) (ww hw 1 rfl) (by decide) (ww hw 3 rfl) (ww hw 2 rfl) e0 (mg1_8 l Z a0 hw [] z1 w0 w4 w2 w1 w5 w6 w7 w8 h0 n0 Z0 S0 S8 S4 S2 S10 S12 S14 S16) (st := [(.int z1)]) rfl 0 rfl (by decide) (pc := 59) (Ls := (lc5 i0 i1 i2 i3 z1 z2 z3 1 1 0)) hml rfl (lenOf pd_0 rfl) at_59 hby
        obtain ⟨rfl, Nr1q, er1⟩ := hQr1
        have hc2 : (i3 &&& (4 : Int32)) = (0 : Int32) := hk31
        refine own_go (U' := Tr1.setTop (mkF m 62 (lc5 i0 i1 i2 i3 z1 z2 z3 1 1 0) [(.ref (own_pick z1 w0 w4 w2 w1 w5 w6 w7 w8))])) (fun t k => oifY (pc := 47) X0 hx hby at_47 54 ((if0 _ _).trans (teq hc2).1) (by decide) (oiconst X0 hx hby at_54 (oistore X0 hx hby at_55 (lc5 i0 i1 i2 i3 z1 z2 z3 1 1 0) rfl (oiload X0 hx hby at_57 rfl (str1 _ k))))) ?_
        obtain ⟨u1, hu1⟩ : ∃ z, z = (own_pick z1 w0 w4 w2 w1 w5 w6 w7 w8) := ⟨_, rfl⟩
        rw [← hu1]
        have f1 : Exa Z h0 u1 zs0 := by rw [hu1]; exact own_pick_E S1 S9 S5 S3 S11 S13 S15 S17
        have hc3 : ¬ ((i0 &&& (7 : Int32)) < (0 : Int32)) := (fun e => by have := Int32.lt_iff_toInt_lt.mp e; have := c_and i0 (7 : Int32) (by decide); have := (by decide : ((7 : Int32)).toInt = 7); have := (by decide : ((0 : Int32)).toInt = 0); omega)
        have hs4 : ¬ (z1 < (0 : Int32)) := by rw [hz1]; exact hc3
        have hc5 : (i0 &&& (7 : Int32)) < (8 : Int32) := (Int32.lt_iff_toInt_lt.mpr (by have := c_and i0 (7 : Int32) (by decide); have := (by decide : ((7 : Int32)).toInt = 7); have := (by decide : ((8 : Int32)).toInt = 8); omega))
        have hs6 : z1 < (8 : Int32) := by rw [hz1]; exact hc5
        have f2 : Fld Z h0 u1 zs26 "ordinal" "I" (.int z1) := by rw [hu1]; exact own_pick_O S19 S24 S20 S18 S21 S25 S23 S22 hs4 hs6
        have N1 := Fr.app N0 Nr1q
        obtain ⟨_, Tr2, Lr2, Xr2, hQr2, str2⟩ := ocallS Xr1 hx hZ zm0 hown (ww hw 0 rfl) (ww hw 1 rfl) (by decide) (ww hw 3 rfl) (ww hw 2 rfl) er1 (mg1_8 l Z a0 hw [] z2 w0 w4 w2 w1 w5 w6 w7 w8 h0 n0 Z0 S0 S8 S4 S2 S10 S12 S14 S16) (st := [(.int z2)]) rfl 0 rfl (by decide) (pc := 66) (Ls := (lc7 i0 i1 i2 i3 z1 z2 z3 1 1 0 u1)) hml rfl (lenOf pd_0 rfl) at_66 hby
        obtain ⟨rfl, Nr2q, er2⟩ := hQr2
        refine own_go (U' := Tr2.setTop (mkF m 69 (lc7 i0 i1 i2 i3 z1 z2 z3 1 1 0 u1) [(.ref (own_pick z2 w0 w4 w2 w1 w5 w6 w7 w8))])) (fun t k => oastore Xr1 hx hby at_62 (lc7 i0 i1 i2 i3 z1 z2 z3 1 1 0 u1) rfl rfl (oiload Xr1 hx hby at_64 rfl (str2 _ k))) ?_
        obtain ⟨u2, hu2⟩ : ∃ z, z = (own_pick z2 w0 w4 w2 w1 w5 w6 w7 w8) := ⟨_, rfl⟩
        rw [← hu2]
        have f3 : Exa Z h0 u2 zs0 := by rw [hu2]; exact own_pick_E S1 S9 S5 S3 S11 S13 S15 S17
        have hc7 : ¬ ((i1 &&& (7 : Int32)) < (0 : Int32)) := (fun e => by have := Int32.lt_iff_toInt_lt.mp e; have := c_and i1 (7 : Int32) (by decide); have := (by decide : ((7 : Int32)).toInt = 7); have := (by decide : ((0 : Int32)).toInt = 0); omega)
        have hs8 : ¬ (z2 < (0 : Int32)) := by rw [hz2]; exact hc7
        have hc9 : (i1 &&& (7 : Int32)) < (8 : Int32) := (Int32.lt_iff_toInt_lt.mpr (by have := c_and i1 (7 : Int32) (by decide); have := (by decide : ((7 : Int32)).toInt = 7); have := (by decide : ((8 : Int32)).toInt = 8); omega))
        have hs10 : z2 < (8 : Int32) := by rw [hz2]; exact hc9
        have f4 : Fld Z h0 u2 zs26 "ordinal" "I" (.int z2) := by rw [hu2]; exact own_pick_O S19 S24 S20 S18 S21 S25 S23 S22 hs8 hs10
        have N2 := Fr.app N1 Nr2q
        obtain ⟨_, Tr3, Lr3, Xr3, hQr3, str3⟩ := ocallS Xr2 hx hZ zm0 hown (ww hw 0 rfl) (ww hw 1 rfl) (by decide) (ww hw 3 rfl) (ww hw 2 rfl) er2 (mg1_8 l Z a0 hw [] z3 w0 w4 w2 w1 w5 w6 w7 w8 h0 n0 Z0 S0 S8 S4 S2 S10 S12 S14 S16) (st := [(.int z3)]) rfl 0 rfl (by decide) (pc := 73) (Ls := (lc8 i0 i1 i2 i3 z1 z2 z3 1 1 0 u1 u2)) hml rfl (lenOf pd_0 rfl) at_73 hby
        obtain ⟨rfl, Nr3q, er3⟩ := hQr3
        refine own_go (U' := Tr3.setTop (mkF m 76 (lc8 i0 i1 i2 i3 z1 z2 z3 1 1 0 u1 u2) [(.ref (own_pick z3 w0 w4 w2 w1 w5 w6 w7 w8))])) (fun t k => oastore Xr2 hx hby at_69 (lc8 i0 i1 i2 i3 z1 z2 z3 1 1 0 u1 u2) rfl rfl (oiload Xr2 hx hby at_71 rfl (str3 _ k))) ?_
        obtain ⟨u3, hu3⟩ : ∃ z, z = (own_pick z3 w0 w4 w2 w1 w5 w6 w7 w8) := ⟨_, rfl⟩
        rw [← hu3]
        have f5 : Exa Z h0 u3 zs0 := by rw [hu3]; exact own_pick_E S1 S9 S5 S3 S11 S13 S15 S17
        have hc11 : ¬ ((i2 &&& (7 : Int32)) < (0 : Int32)) := (fun e => by have := Int32.lt_iff_toInt_lt.mp e; have := c_and i2 (7 : Int32) (by decide); have := (by decide : ((7 : Int32)).toInt = 7); have := (by decide : ((0 : Int32)).toInt = 0); omega)
        have hs12 : ¬ (z3 < (0 : Int32)) := by rw [hz3]; exact hc11
        have hc13 : (i2 &&& (7 : Int32)) < (8 : Int32) := (Int32.lt_iff_toInt_lt.mpr (by have := c_and i2 (7 : Int32) (by decide); have := (by decide : ((7 : Int32)).toInt = 7); have := (by decide : ((8 : Int32)).toInt = 8); omega))
        have hs14 : z3 < (8 : Int32) := by rw [hz3]; exact hc13
        have f6 : Fld Z h0 u3 zs26 "ordinal" "I" (.int z3) := by rw [hu3]; exact own_pick_O S19 S24 S20 S18 S21 S25 S23 S22 hs12 hs14
        have N3 := Fr.app N2 Nr3q
        obtain ⟨Tr4, hr4, Xr4, er4, Er4, Ar4, Dr4, -, str4⟩ := newO Xr3 hx hZ hown (ww hw 11 rfl) (ww hw 12 rfl) (ww hw 13 rfl) er3 (g := (mkF m 78 (lc9 i0 i1 i2 i3 z1 z2 z3 1 1 0 u1 u2 u3) [])) rfl (hb hby at_78) (by decide) (by decide)
        obtain ⟨br4, gr4⟩ : ∃ z, z = h0.size := ⟨_, rfl⟩
        rw [← gr4] at Ar4 Dr4 str4
        have f7 : Fld Z hr4 br4 zs22 "counts" "[I" .null := Dr4 (Or.inr (ww hw 42 rfl)) (ty := (.array .int)) (by decide)
        have f8 : Fld Z hr4 br4 zs22 zs23 zs24 .null := Dr4 (Or.inr (ww hw 68 rfl)) (ty := (.object zs25)) (by decide)
        have f9 : Sta Z hr4 zs0 "$VALUES" zs12 (.ref w3) := (Sta.ext Er4 S6)
        have f10 : Arv Z hr4 w3 kl0 (.object zs0) (8 : Int32) [(.ref w0), (.ref w4), (.ref w2), (.ref w1), (.ref w5), (.ref w6), (.ref w7), (.ref w8)] .null := (S30.ext Er4)
        have f11 : Exa Z hr4 w3 zs12 := (Exa.ext Er4 S7)
        have g1 : n0 ≤ br4 := Nat.le_trans Z0 (Nat.le_of_eq gr4.symm)
        have f12 : Sta Z hr4 zs17 zs21 zs19 (.ref w10) := (Sta.ext Er4 S28)
        have Z_1 : n0 ≤ hr4.size := Nat.le_trans Z0 Er4.1
        obtain ⟨_, Tr5, Lr5, Xr5, hQr5, str5⟩ := ocallI Xr4 hx hZ zm5 rfl hown (ww hw 14 rfl) (ww hw 15 rfl) (by decide) (ww hw 16 rfl) (ww hw 13 rfl) er4 (rm2_13 l Z a0 hw [] br4 w3 w0 w4 w2 w1 w5 w6 w7 w8 kl0 w10 hr4 n0 Z_1 f9 f10 f11 f7 f8 Ar4 g1 f12) (st := [(.ref br4), (.ref br4)]) rfl 1 rfl (by decide) (pc := 82) (Ls := (lc9 i0 i1 i2 i3 z1 z2 z3 1 1 0 u1 u2 u3)) hml rfl (lenOf pd_2 rfl) at_82 hby
        obtain ⟨b1, b2, k1, rfl, Nr5q, Kr5, sz1, sz2, ne1, f13, f14, f15, f16, f17, f18, f19⟩ := hQr5
        have N4 := Fr.app N3 Nr5q
        have f20 : Exa Z Tr5.heap br4 zs22 := (Ar4.keep Kr5)
        have f21 : Exa Z Tr5.heap u2 zs0 := ((Exa.ext Er4 f3).keep Kr5)
        have ne2 : u2 ≠ br4 := Nat.ne_of_lt (Nat.lt_of_lt_of_le (f4.lt) (Nat.le_of_eq gr4.symm))
        have f22 : Fld Z Tr5.heap u2 zs26 "ordinal" "I" (.int z2) := ((Fld.ext Er4 f4).keep Kr5 (ninS ne2 nin0))
        have g2 : n0 ≤ b1 := Nat.le_trans Z_1 sz1
        have Z_2 : n0 ≤ Tr5.heap.size := Nat.le_trans Z_1 Kr5.1
        obtain ⟨_, Tr6, Lr6, Xr6, hQr6, str6⟩ := ocallV Xr5 hx hZ zm7 zm7 hown (ww hw 69 rfl) (ww hw 70 rfl) (notFace_of_selects (args := #[]) (mvT hZ (ww hw 72 rfl))) (ww hw 72 rfl) (ww hw 71 rfl) (by decide) (ww hw 73 rfl) (ww hw 13 rfl) rfl f20 (rm8_42 l Z a0 hw [] br4 u2 b1 z2 k1 Tr5.heap n0 Z_2 f13 f21 f22 f16 hs8 hs10 g2) (st := [(.int 1), (.ref u2), (.ref br4)]) rfl 0 rfl (by decide) (pc := 93) (Ls := (lc12 i0 i1 i2 i3 z1 z2 z3 1 1 0 u1 u2 u3 br4)) hml rfl (lenOf pd_4 rfl) at_93 hby
        obtain ⟨rfl, Nr6q, Kr6, f23⟩ := hQr6
        have N5 := Fr.app N4 Nr6q
        have f24 : Exa Z Tr6.heap br4 zs22 := (f20.keep Kr6)
        have ne3 : br4 ≠ b1 := Nat.ne_of_lt (Nat.lt_of_lt_of_le (f7.lt) sz1)
        have f25 : Fld Z Tr6.heap br4 zs22 "counts" "[I" (.ref b1) := (f13.keep Kr6 (ninS ne3 nin0))
        have f26 : Exa Z Tr6.heap u1 zs0 := (((Exa.ext Er4 f1).keep Kr5).keep Kr6)
        have ne4 : u1 ≠ br4 := Nat.ne_of_lt (Nat.lt_of_lt_of_le (f2.lt) (Nat.le_of_eq gr4.symm))
        have ne5 : u1 ≠ b1 := Nat.ne_of_lt (Nat.lt_of_lt_of_le (Nat.lt_of_lt_of_le (f2.lt) Er4.1) sz1)
        have f27 : Fld Z Tr6.heap u1 zs26 "ordinal" "I" (.int z1) := (((Fld.ext Er4 f2).keep Kr5 (ninS ne4 nin0)).keep Kr6 (ninS ne5 nin0))
        have Z_3 : n0 ≤ Tr6.heap.size := Nat.le_trans Z_2 Kr6.1
        by_cases hk32 : (i0 &&& (7 : Int32)) = (i1 &&& (7 : Int32))
        · have hc15 : (i0 &&& (7 : Int32)) = (i1 &&& (7 : Int32)) := hk32
          have hs16 : z1 = z2 := by rw [hz2, hz1]; exact hc15
          obtain ⟨_, Tr7, Lr7, Xr7, hQr7, str7⟩ := ocallV Xr6 hx hZ zm7 zm7 hown (ww hw 69 rfl) (ww hw 70 rfl) (notFace_of_selects (args := #[]) (mvT hZ (ww hw 72 rfl))) (ww hw 72 rfl) (ww hw 71 rfl) (by decide) (ww hw 73 rfl) (ww hw 13 rfl) rfl f24 (rm8_63 l Z a0 hw [] br4 u1 b1 z1 k1 z2 Tr6.heap n0 Z_3 f25 f26 f27 f23 hs4 hs6 hs16 g2) (st := [(.int 1), (.ref u1), (.ref br4)]) rfl 0 rfl (by decide) (pc := 102) (Ls := (lc12 i0 i1 i2 i3 z1 z2 z3 1 1 0 u1 u2 u3 br4)) hml rfl (lenOf pd_4 rfl) at_102 hby
          obtain ⟨rfl, Nr7q, Kr7, f28⟩ := hQr7
          have N6 := Fr.app N5 Nr7q
          have f29 : Exa Z Tr7.heap br4 zs22 := (f24.keep Kr7)
          have f30 : Fld Z Tr7.heap br4 zs22 "counts" "[I" (.ref b1) := (f25.keep Kr7 (ninS ne3 nin0))
          have f31 : Exa Z Tr7.heap u1 zs0 := (f26.keep Kr7)
          have f32 : Fld Z Tr7.heap u1 zs26 "ordinal" "I" (.int z1) := (f27.keep Kr7 (ninS ne5 nin0))
          have Z_4 : n0 ≤ Tr7.heap.size := Nat.le_trans Z_3 Kr7.1
          obtain ⟨_, Tr8, Lr8, Xr8, hQr8, str8⟩ := ocallV Xr7 hx hZ zm7 zm7 hown (ww hw 69 rfl) (ww hw 70 rfl) (notFace_of_selects (args := #[]) (mvT hZ (ww hw 72 rfl))) (ww hw 72 rfl) (ww hw 71 rfl) (by decide) (ww hw 73 rfl) (ww hw 13 rfl) rfl f29 (rm8_64 l Z a0 hw [] br4 u1 b1 z1 k1 z2 Tr7.heap n0 Z_4 f30 f31 f32 f28 hs4 hs6 g2) (st := [(.int 0), (.ref u1), (.ref br4)]) rfl 0 rfl (by decide) (pc := 111) (Ls := (lc12 i0 i1 i2 i3 z1 z2 z3 1 1 0 u1 u2 u3 br4)) hml rfl (lenOf pd_4 rfl) at_111 hby
          obtain ⟨rfl, Nr8q, Kr8, f33⟩ := hQr8
          have N7 := Fr.app N6 Nr8q
          refine own_go (U' := Tr8.setTop (mkF m 118 (lc12 i0 i1 i2 i3 z1 z2 z3 1 1 0 u1 u2 u3 br4) [(.int z1), (.int z2)])) (fun t k => oastore Xr3 hx hby at_76 (lc9 i0 i1 i2 i3 z1 z2 z3 1 1 0 u1 u2 u3) rfl rfl (str4 _ (odup Xr4 hx hby at_81 rfl (str5 _ (oastore Xr5 hx hby at_85 (lc12 i0 i1 i2 i3 z1 z2 z3 1 1 0 u1 u2 u3 br4) rfl rfl (oaload Xr5 hx hby at_87 rfl rfl (oaload Xr5 hx hby at_89 rfl rfl (oiload Xr5 hx hby at_91 rfl (str6 _ (oaload Xr6 hx hby at_96 rfl rfl (oaload Xr6 hx hby at_98 rfl rfl (oiload Xr6 hx hby at_100 rfl (str7 _ (oaload Xr7 hx hby at_105 rfl rfl (oaload Xr7 hx hby at_107 rfl rfl (oiload Xr7 hx hby at_109 rfl (str8 _ (oiload Xr8 hx hby at_114 rfl (oiload Xr8 hx hby at_116 rfl k))))))))))))))))))) ?_
          have hc17 : (i1 &&& (7 : Int32)) = (i0 &&& (7 : Int32)) := (Int32.toInt_inj.mp (by have := congrArg Int32.toInt hk32; have := c_and i1 (7 : Int32) (by decide); have := (by decide : ((7 : Int32)).toInt = 7); have := c_and i0 (7 : Int32) (by decide); omega))
          have hs18 : z2 = z1 := by rw [hz2, hz1]; exact hc17
          refine own_go (U' := Tr8.setTop (mkF m 123 (lc12 i0 i1 i2 i3 z1 z2 z3 1 1 0 u1 u2 u3 br4) [(.int 1)])) (fun t k => oicN Xr8 hx hby at_118 (teq hs18).2 (oiload Xr8 hx hby at_121 rfl k)) ?_
          have Z_5 : n0 ≤ Tr8.heap.size := Nat.le_trans Z_4 Kr8.1
          obtain ⟨_, Tr9, Lr9, Xr9, hQr9, str9⟩ := ocallS Xr8 hx hZ zm9 hown (ww hw 83 rfl) (ww hw 84 rfl) (by decide) (ww hw 85 rfl) (ww hw 2 rfl) rfl (rm10_25 l Z a0 hw []  Tr8.heap n0 Z_5 ) (st := [(.int 1)]) rfl 0 rfl (by decide) (pc := 131) (Ls := (lc12 i0 i1 i2 i3 z1 z2 z3 1 1 0 u1 u2 u3 br4)) hml rfl (lenOf pd_5 rfl) at_131 hby
          obtain ⟨rfl, Nr9q, er9⟩ := hQr9
          have N8 := Fr.app N7 Nr9q
          obtain ⟨_, Tr10, Lr10, Xr10, hQr10, str10⟩ := ocallS Xr9 hx hZ zm9 hown (ww hw 83 rfl) (ww hw 84 rfl) (by decide) (ww hw 85 rfl) (ww hw 2 rfl) er9 (rm10_25 l Z a0 hw []  Tr8.heap n0 Z_5 ) (st := [(.int 1), (.int 1)]) rfl 1 rfl (by decide) (pc := 136) (Ls := (lc12 i0 i1 i2 i3 z1 z2 z3 1 1 0 u1 u2 u3 br4)) hml rfl (lenOf pd_5 rfl) at_136 hby
          obtain ⟨rfl, Nr10q, er10⟩ := hQr10
          have N9 := Fr.app N8 Nr10q
          obtain ⟨_, Tr11, Lr11, Xr11, hQr11, str11⟩ := ocallS Xr10 hx hZ zm9 hown (ww hw 83 rfl) (ww hw 84 rfl) (by decide) (ww hw 85 rfl) (ww hw 2 rfl) er10 (rm10_18 l Z a0 hw []  Tr8.heap n0 Z_5 ) (st := [(.int 0), (.int 2)]) rfl 1 rfl (by decide) (pc := 142) (Ls := (lc12 i0 i1 i2 i3 z1 z2 z3 1 1 0 u1 u2 u3 br4)) hml rfl (lenOf pd_5 rfl) at_142 hby
          obtain ⟨rfl, Nr11q, er11⟩ := hQr11
          have N10 := Fr.app N9 Nr11q
          refine own_go (U' := Tr11.setTop (mkF m 152 (lc14 i0 i1 i2 i3 z1 z2 z3 1 1 0 u1 u2 u3 br4 2) [(.int z3), (.int z2)])) (fun t k => oifN Xr8 hx hby at_123 (by decide) (oiconst Xr8 hx hby at_126 (ogoto (pc := 127) Xr8 hx hby at_127 131 (by decide) (str9 _ (oiload Xr9 hx hby at_134 rfl (str10 _ (oiadd Xr10 hx hby at_139 (oiload Xr10 hx hby at_140 rfl (str11 _ (oiadd Xr11 hx hby at_145 (oistore Xr11 hx hby at_146 (lc14 i0 i1 i2 i3 z1 z2 z3 1 1 0 u1 u2 u3 br4 2) rfl (oiload Xr11 hx hby at_148 rfl (oiload Xr11 hx hby at_150 rfl k))))))))))))) ?_
          by_cases hk33 : (i1 &&& (7 : Int32)) = (i2 &&& (7 : Int32))
          · have hc19 : (i1 &&& (7 : Int32)) = (i2 &&& (7 : Int32)) := hk33
            have hs20 : z2 = z3 := by rw [hz3, hz2]; exact hc19
            refine own_go (U' := Tr11.setTop (mkF m 157 (lc14 i0 i1 i2 i3 z1 z2 z3 1 1 0 u1 u2 u3 br4 2) [(.int 1)])) (fun t k => oicN Xr11 hx hby at_152 (teq hs20).2 (oiload Xr11 hx hby at_155 rfl k)) ?_
            obtain ⟨_, Tr12, Lr12, Xr12, hQr12, str12⟩ := ocallS Xr11 hx hZ zm9 hown (ww hw 83 rfl) (ww hw 84 rfl) (by decide) (ww hw 85 rfl) (ww hw 2 rfl) er11 (rm10_25 l Z a0 hw []  Tr8.heap n0 Z_5 ) (st := [(.int 1)]) rfl 0 rfl (by decide) (pc := 165) (Ls := (lc14 i0 i1 i2 i3 z1 z2 z3 1 1 0 u1 u2 u3 br4 2)) hml rfl (lenOf pd_5 rfl) at_165 hby
            obtain ⟨rfl, Nr12q, er12⟩ := hQr12
            have N11 := Fr.app N10 Nr12q
            refine own_go (U' := Tr12.setTop (mkF m 172 (lc14 i0 i1 i2 i3 z1 z2 z3 1 1 0 u1 u2 u3 br4 2) [(.int z3), (.int z1), (.int 1)])) (fun t k => oifN Xr11 hx hby at_157 (by decide) (oiconst Xr11 hx hby at_160 (ogoto (pc := 161) Xr11 hx hby at_161 165 (by decide) (str12 _ (oiload Xr12 hx hby at_168 rfl (oiload Xr12 hx hby at_170 rfl k)))))) ?_
            have hc21 : (i0 &&& (7 : Int32)) = (i2 &&& (7 : Int32)) := (Int32.toInt_inj.mp (by have := congrArg Int32.toInt hk32; have := congrArg Int32.toInt hk33; have := c_and i0 (7 : Int32) (by decide); have := (by decide : ((7 : Int32)).toInt = 7); have := c_and i2 (7 : Int32) (by decide); have := c_and i1 (7 : Int32) (by decide); omega))
            have hs22 : z1 = z3 := by rw [hz3, hz1]; exact hc21
            refine own_go (U' := Tr12.setTop (mkF m 177 (lc14 i0 i1 i2 i3 z1 z2 z3 1 1 0 u1 u2 u3 br4 2) [(.int 1), (.int 1)])) (fun t k => oicN Xr12 hx hby at_172 (teq hs22).2 (oiload Xr12 hx hby at_175 rfl k)) ?_
            obtain ⟨_, Tr13, Lr13, Xr13, hQr13, str13⟩ := ocallS Xr12 hx hZ zm9 hown (ww hw 83 rfl) (ww hw 84 rfl) (by decide) (ww hw 85 rfl) (ww hw 2 rfl) er12 (rm10_25 l Z a0 hw []  Tr8.heap n0 Z_5 ) (st := [(.int 1), (.int 1)]) rfl 1 rfl (by decide) (pc := 185) (Ls := (lc14 i0 i1 i2 i3 z1 z2 z3 1 1 0 u1 u2 u3 br4 2)) hml rfl (lenOf pd_5 rfl) at_185 hby
            obtain ⟨rfl, Nr13q, er13⟩ := hQr13
            have N12 := Fr.app N11 Nr13q
            refine own_go (U' := Tr13.setTop (mkF m 193 (lc14 i0 i1 i2 i3 z1 z2 z3 1 1 0 u1 u2 u3 br4 2) [(.int z3), (.int z1), (.int 2)])) (fun t k => oifN Xr12 hx hby at_177 (by decide) (oiconst Xr12 hx hby at_180 (ogoto (pc := 181) Xr12 hx hby at_181 185 (by decide) (str13 _ (oiadd Xr13 hx hby at_188 (oiload Xr13 hx hby at_189 rfl (oiload Xr13 hx hby at_191 rfl k))))))) ?_
            refine own_go (U' := Tr13.setTop (mkF m 198 (lc14 i0 i1 i2 i3 z1 z2 z3 1 1 0 u1 u2 u3 br4 2) [(.int 0), (.int 2)])) (fun t k => oicN Xr13 hx hby at_193 (teq hs22).2 (oiload Xr13 hx hby at_196 rfl k)) ?_
            obtain ⟨_, Tr14, Lr14, Xr14, hQr14, str14⟩ := ocallS Xr13 hx hZ zm9 hown (ww hw 83 rfl) (ww hw 84 rfl) (by decide) (ww hw 85 rfl) (ww hw 2 rfl) er13 (rm10_18 l Z a0 hw []  Tr8.heap n0 Z_5 ) (st := [(.int 0), (.int 2)]) rfl 1 rfl (by decide) (pc := 206) (Ls := (lc14 i0 i1 i2 i3 z1 z2 z3 1 1 0 u1 u2 u3 br4 2)) hml rfl (lenOf pd_5 rfl) at_206 hby
            obtain ⟨rfl, Nr14q, er14⟩ := hQr14
            have N13 := Fr.app N12 Nr14q
            have f34 : Exa Z Tr8.heap br4 zs22 := (f29.keep Kr8)
            have f35 : Fld Z Tr8.heap br4 zs22 "counts" "[I" (.ref b1) := (f30.keep Kr8 (ninS ne3 nin0))
            have f36 : Exa Z Tr8.heap u1 zs0 := (f31.keep Kr8)
            have f37 : Fld Z Tr8.heap u1 zs26 "ordinal" "I" (.int z1) := (f32.keep Kr8 (ninS ne5 nin0))
            obtain ⟨_, Tr15, Lr15, Xr15, hQr15, str15⟩ := ocallV Xr14 hx hZ zm10 zm10 hown (ww hw 86 rfl) (ww hw 87 rfl) (notFace_of_selects (args := #[]) (mvT hZ (ww hw 89 rfl))) (ww hw 89 rfl) (ww hw 88 rfl) (by decide) (ww hw 90 rfl) (ww hw 13 rfl) er14 f34 (rm11_65 l Z a0 hw [] br4 u1 b1 z1 k1 z2 Tr8.heap n0 Z_5 f35 f36 f37 f33 hs4 hs6) (st := [(.ref u1), (.ref br4)]) rfl 0 rfl (by decide) (pc := 216) (Ls := (lc15 i0 i1 i2 i3 z1 z2 z3 1 1 0 u1 u2 u3 br4 2 2)) hml rfl (lenOf pd_6 rfl) at_216 hby
            obtain ⟨rfl, Nr15q, er15⟩ := hQr15
            have N14 := Fr.app N13 Nr15q
            refine own_go (U' := Tr15.setTop (mkF m 221 (lc15 i0 i1 i2 i3 z1 z2 z3 1 1 0 u1 u2 u3 br4 2 2) [(.int 2), (.int 2)])) (fun t k => oifY (pc := 198) Xr13 hx hby at_198 205 (by decide) (by decide) (oiconst Xr13 hx hby at_205 (str14 _ (oiadd Xr14 hx hby at_209 (oistore Xr14 hx hby at_210 (lc15 i0 i1 i2 i3 z1 z2 z3 1 1 0 u1 u2 u3 br4 2 2) rfl (oaload Xr14 hx hby at_212 rfl rfl (oaload Xr14 hx hby at_214 rfl rfl (str15 _ (oiload Xr15 hx hby at_219 rfl k))))))))) ?_
            have f38 : Exa Z Tr8.heap u3 zs0 := (((((Exa.ext Er4 f5).keep Kr5).keep Kr6).keep Kr7).keep Kr8)
            have ne6 : u3 ≠ br4 := Nat.ne_of_lt (Nat.lt_of_lt_of_le (f6.lt) (Nat.le_of_eq gr4.symm))
            have ne7 : u3 ≠ b1 := Nat.ne_of_lt (Nat.lt_of_lt_of_le (Nat.lt_of_lt_of_le (f6.lt) Er4.1) sz1)
            have f39 : Fld Z Tr8.heap u3 zs26 "ordinal" "I" (.int z3) := (((((Fld.ext Er4 f6).keep Kr5 (ninS ne6 nin0)).keep Kr6 (ninS ne7 nin0)).keep Kr7 (ninS ne7 nin0)).keep Kr8 (ninS ne7 nin0))
            have hc23 : (i2 &&& (7 : Int32)) = (i0 &&& (7 : Int32)) := (Int32.toInt_inj.mp (by have := congrArg Int32.toInt hk32; have := congrArg Int32.toInt hk33; have := c_and i2 (7 : Int32) (by decide); have := (by decide : ((7 : Int32)).toInt = 7); have := c_and i0 (7 : Int32) (by decide); have := c_and i1 (7 : Int32) (by decide); omega))
            have hs24 : z3 = z1 := by rw [hz3, hz1]; exact hc23
            obtain ⟨_, Tr16, Lr16, Xr16, hQr16, str16⟩ := ocallV Xr15 hx hZ zm10 zm10 hown (ww hw 86 rfl) (ww hw 87 rfl) (notFace_of_selects (args := #[]) (mvT hZ (ww hw 89 rfl))) (ww hw 89 rfl) (ww hw 88 rfl) (by decide) (ww hw 90 rfl) (ww hw 13 rfl) er15 f34 (rm11_66 l Z a0 hw [] br4 u3 b1 z3 k1 z1 z2 Tr8.heap n0 Z_5 f35 f38 f39 f33 hs12 hs14 hs24) (st := [(.ref u3), (.ref br4)]) rfl 0 rfl (by decide) (pc := 228) (Ls := (lc15 i0 i1 i2 i3 z1 z2 z3 1 1 0 u1 u2 u3 br4 2 2)) hml rfl (lenOf pd_6 rfl) at_228 hby
            obtain ⟨rfl, Nr16q, er16⟩ := hQr16
            have N15 := Fr.app N14 Nr16q
            refine own_go (U' := Tr16.setTop (mkF m 233 (lc15 i0 i1 i2 i3 z1 z2 z3 1 1 0 u1 u2 u3 br4 2 2) [(.int 2), (.int 2)])) (fun t k => oicN Xr15 hx hby at_221 (by decide) (oaload Xr15 hx hby at_224 rfl rfl (oaload Xr15 hx hby at_226 rfl rfl (str16 _ (oiload Xr16 hx hby at_231 rfl k))))) ?_
            refine own_go (U' := Tr16.setTop (mkF m 241 (lc15 i0 i1 i2 i3 z1 z2 z3 1 1 0 u1 u2 u3 br4 2 2) [(.int 1)])) (fun t k => oicN Xr16 hx hby at_233 (by decide) (oiconst Xr16 hx hby at_236 (ogoto (pc := 237) Xr16 hx hby at_237 241 (by decide) k))) ?_
            obtain ⟨fs, hr, hrun, hended, hW, hsame⟩ := Xr16.leave (v := some (.int 1)) (fun h => by rw [Bd.returns] at h; cases h)
            refine own_out ⟨_, _, ?_, hrun, hended, _, _, rfl, ?_, ⟨_, rfl⟩, hW, hsame.mono (by decide) (by decide)⟩
            · exact retN Xr16 hx (t := .boolean) Bd.returns (by simp) (hb hby at_241) hr
            · exact ⟨rfl, N15⟩
          · obtain ⟨_, Tr12, Lr12, Xr12, hQr12, str12⟩ := ocallS Xr11 hx hZ zm9 hown (ww hw 83 rfl) (ww hw 84 rfl) (by decide) (ww hw 85 rfl) (ww hw 2 rfl) er11 (rm10_18 l Z a0 hw []  Tr8.heap n0 Z_5 ) (st := [(.int 0)]) rfl 0 rfl (by decide) (pc := 165) (Ls := (lc14 i0 i1 i2 i3 z1 z2 z3 1 1 0 u1 u2 u3 br4 2)) hml rfl (lenOf pd_5 rfl) at_165 hby
            obtain ⟨rfl, Nr12q, er12⟩ := hQr12
            have N11 := Fr.app N10 Nr12q
            have hc25 : ¬ ((i1 &&& (7 : Int32)) = (i2 &&& (7 : Int32))) := hk33
            have hs26 : ¬ (z2 = z3) := by rw [hz3, hz2]; exact hc25
            refine own_go (U' := Tr12.setTop (mkF m 172 (lc14 i0 i1 i2 i3 z1 z2 z3 1 1 0 u1 u2 u3 br4 2) [(.int z3), (.int z1), (.int 0)])) (fun t k => oicY (pc := 152) Xr11 hx hby at_152 164 (feq hs26).2 (by decide) (oiconst Xr11 hx hby at_164 (str12 _ (oiload Xr12 hx hby at_168 rfl (oiload Xr12 hx hby at_170 rfl k))))) ?_
            obtain ⟨_, Tr13, Lr13, Xr13, hQr13, str13⟩ := ocallS Xr12 hx hZ zm9 hown (ww hw 83 rfl) (ww hw 84 rfl) (by decide) (ww hw 85 rfl) (ww hw 2 rfl) er12 (rm10_18 l Z a0 hw []  Tr8.heap n0 Z_5 ) (st := [(.int 0), (.int 0)]) rfl 1 rfl (by decide) (pc := 185) (Ls := (lc14 i0 i1 i2 i3 z1 z2 z3 1 1 0 u1 u2 u3 br4 2)) hml rfl (lenOf pd_5 rfl) at_185 hby
            obtain ⟨rfl, Nr13q, er13⟩ := hQr13
            have N12 := Fr.app N11 Nr13q
            have hc27 : ¬ ((i0 &&& (7 : Int32)) = (i2 &&& (7 : Int32))) := (fun e => by have := congrArg Int32.toInt e; have := congrArg Int32.toInt hk32; have : ¬ ((i1 &&& (7 : Int32))).toInt = ((i2 &&& (7 : Int32))).toInt := fun e => hk33 (Int32.toInt_inj.mp e); have := c_and i0 (7 : Int32) (by decide); have := (by decide : ((7 : Int32)).toInt = 7); have := c_and i2 (7 : Int32) (by decide); have := c_and i1 (7 : Int32) (by decide); omega)
            have hs28 : ¬ (z1 = z3) := by rw [hz3, hz1]; exact hc27
            refine own_go (U' := Tr13.setTop (mkF m 193 (lc14 i0 i1 i2 i3 z1 z2 z3 1 1 0 u1 u2 u3 br4 2) [(.int z3), (.int z1), (.int 0)])) (fun t k => oicY (pc := 172) Xr12 hx hby at_172 184 (feq hs28).2 (by decide) (oiconst Xr12 hx hby at_184 (str13 _ (oiadd Xr13 hx hby at_188 (oiload Xr13 hx hby at_189 rfl (oiload Xr13 hx hby at_191 rfl k)))))) ?_
            obtain ⟨_, Tr14, Lr14, Xr14, hQr14, str14⟩ := ocallS Xr13 hx hZ zm9 hown (ww hw 83 rfl) (ww hw 84 rfl) (by decide) (ww hw 85 rfl) (ww hw 2 rfl) er13 (rm10_18 l Z a0 hw []  Tr8.heap n0 Z_5 ) (st := [(.int 0), (.int 0)]) rfl 1 rfl (by decide) (pc := 206) (Ls := (lc14 i0 i1 i2 i3 z1 z2 z3 1 1 0 u1 u2 u3 br4 2)) hml rfl (lenOf pd_5 rfl) at_206 hby
            obtain ⟨rfl, Nr14q, er14⟩ := hQr14
            have N13 := Fr.app N12 Nr14q
            have f34 : Exa Z Tr8.heap br4 zs22 := (f29.keep Kr8)
            have f35 : Fld Z Tr8.heap br4 zs22 "counts" "[I" (.ref b1) := (f30.keep Kr8 (ninS ne3 nin0))
            have f36 : Exa Z Tr8.heap u1 zs0 := (f31.keep Kr8)
            have f37 : Fld Z Tr8.heap u1 zs26 "ordinal" "I" (.int z1) := (f32.keep Kr8 (ninS ne5 nin0))
            obtain ⟨_, Tr15, Lr15, Xr15, hQr15, str15⟩ := ocallV Xr14 hx hZ zm10 zm10 hown (ww hw 86 rfl) (ww hw 87 rfl) (notFace_of_selects (args := #[]) (mvT hZ (ww hw 89 rfl))) (ww hw 89 rfl) (ww hw 88 rfl) (by decide) (ww hw 90 rfl) (ww hw 13 rfl) er14 f34 (rm11_65 l Z a0 hw [] br4 u1 b1 z1 k1 z2 Tr8.heap n0 Z_5 f35 f36 f37 f33 hs4 hs6) (st := [(.ref u1), (.ref br4)]) rfl 0 rfl (by decide) (pc := 216) (Ls := (lc15 i0 i1 i2 i3 z1 z2 z3 1 1 0 u1 u2 u3 br4 2 0)) hml rfl (lenOf pd_6 rfl) at_216 hby
            obtain ⟨rfl, Nr15q, er15⟩ := hQr15
            have N14 := Fr.app N13 Nr15q
            refine own_go (U' := Tr15.setTop (mkF m 221 (lc15 i0 i1 i2 i3 z1 z2 z3 1 1 0 u1 u2 u3 br4 2 0) [(.int 2), (.int 2)])) (fun t k => oicY (pc := 193) Xr13 hx hby at_193 205 (feq hs28).2 (by decide) (oiconst Xr13 hx hby at_205 (str14 _ (oiadd Xr14 hx hby at_209 (oistore Xr14 hx hby at_210 (lc15 i0 i1 i2 i3 z1 z2 z3 1 1 0 u1 u2 u3 br4 2 0) rfl (oaload Xr14 hx hby at_212 rfl rfl (oaload Xr14 hx hby at_214 rfl rfl (str15 _ (oiload Xr15 hx hby at_219 rfl k))))))))) ?_
            have f38 : Exa Z Tr8.heap u3 zs0 := (((((Exa.ext Er4 f5).keep Kr5).keep Kr6).keep Kr7).keep Kr8)
            have ne6 : u3 ≠ br4 := Nat.ne_of_lt (Nat.lt_of_lt_of_le (f6.lt) (Nat.le_of_eq gr4.symm))
            have ne7 : u3 ≠ b1 := Nat.ne_of_lt (Nat.lt_of_lt_of_le (Nat.lt_of_lt_of_le (f6.lt) Er4.1) sz1)
            have f39 : Fld Z Tr8.heap u3 zs26 "ordinal" "I" (.int z3) := (((((Fld.ext Er4 f6).keep Kr5 (ninS ne6 nin0)).keep Kr6 (ninS ne7 nin0)).keep Kr7 (ninS ne7 nin0)).keep Kr8 (ninS ne7 nin0))
            have hc29 : ¬ ((i2 &&& (7 : Int32)) = (i0 &&& (7 : Int32))) := (fun e => by have := congrArg Int32.toInt e; have := congrArg Int32.toInt hk32; have : ¬ ((i1 &&& (7 : Int32))).toInt = ((i2 &&& (7 : Int32))).toInt := fun e => hk33 (Int32.toInt_inj.mp e); have := c_and i2 (7 : Int32) (by decide); have := (by decide : ((7 : Int32)).toInt = 7); have := c_and i0 (7 : Int32) (by decide); have := c_and i1 (7 : Int32) (by decide); omega)
            have hs30 : ¬ (z3 = z1) := by rw [hz3, hz1]; exact hc29
            have hc31 : ¬ ((i2 &&& (7 : Int32)) = (i1 &&& (7 : Int32))) := (fun e => by have := congrArg Int32.toInt e; have : ¬ ((i1 &&& (7 : Int32))).toInt = ((i2 &&& (7 : Int32))).toInt := fun e => hk33 (Int32.toInt_inj.mp e); have := c_and i2 (7 : Int32) (by decide); have := (by decide : ((7 : Int32)).toInt = 7); have := c_and i1 (7 : Int32) (by decide); omega)
            have hs32 : ¬ (z3 = z2) := by rw [hz3, hz2]; exact hc31
            obtain ⟨_, Tr16, Lr16, Xr16, hQr16, str16⟩ := ocallV Xr15 hx hZ zm10 zm10 hown (ww hw 86 rfl) (ww hw 87 rfl) (notFace_of_selects (args := #[]) (mvT hZ (ww hw 89 rfl))) (ww hw 89 rfl) (ww hw 88 rfl) (by decide) (ww hw 90 rfl) (ww hw 13 rfl) er15 f34 (rm11_67 l Z a0 hw [] br4 u3 b1 z3 k1 z1 z2 Tr8.heap n0 Z_5 f35 f38 f39 f33 hs12 hs14 hs30 hs32) (st := [(.ref u3), (.ref br4)]) rfl 0 rfl (by decide) (pc := 228) (Ls := (lc15 i0 i1 i2 i3 z1 z2 z3 1 1 0 u1 u2 u3 br4 2 0)) hml rfl (lenOf pd_6 rfl) at_228 hby
            obtain ⟨rfl, Nr16q, er16⟩ := hQr16
            have N15 := Fr.app N14 Nr16q
            refine own_go (U' := Tr16.setTop (mkF m 233 (lc15 i0 i1 i2 i3 z1 z2 z3 1 1 0 u1 u2 u3 br4 2 0) [(.int 0), (.int 0)])) (fun t k => oicN Xr15 hx hby at_221 (by decide) (oaload Xr15 hx hby at_224 rfl rfl (oaload Xr15 hx hby at_226 rfl rfl (str16 _ (oiload Xr16 hx hby at_231 rfl k))))) ?_
            refine own_go (U' := Tr16.setTop (mkF m 241 (lc15 i0 i1 i2 i3 z1 z2 z3 1 1 0 u1 u2 u3 br4 2 0) [(.int 1)])) (fun t k => oicN Xr16 hx hby at_233 (by decide) (oiconst Xr16 hx hby at_236 (ogoto (pc := 237) Xr16 hx hby at_237 241 (by decide) k))) ?_
            obtain ⟨fs, hr, hrun, hended, hW, hsame⟩ := Xr16.leave (v := some (.int 1)) (fun h => by rw [Bd.returns] at h; cases h)
            refine own_out ⟨_, _, ?_, hrun, hended, _, _, rfl, ?_, ⟨_, rfl⟩, hW, hsame.mono (by decide) (by decide)⟩
            · exact retN Xr16 hx (t := .boolean) Bd.returns (by simp) (hb hby at_241) hr
            · exact ⟨rfl, N15⟩
        · have hc33 : ¬ ((i0 &&& (7 : Int32)) = (i1 &&& (7 : Int32))) := hk32
          have hs34 : ¬ (z1 = z2) := by rw [hz2, hz1]; exact hc33
          obtain ⟨_, Tr7, Lr7, Xr7, hQr7, str7⟩ := ocallV Xr6 hx hZ zm7 zm7 hown (ww hw 69 rfl) (ww hw 70 rfl) (notFace_of_selects (args := #[]) (mvT hZ (ww hw 72 rfl))) (ww hw 72 rfl) (ww hw 71 rfl) (by decide) (ww hw 73 rfl) (ww hw 13 rfl) rfl f24 (rm8_68 l Z a0 hw [] br4 u1 b1 z1 k1 z2 Tr6.heap n0 Z_3 f25 f26 f27 f23 hs4 hs6 hs34 g2) (st := [(.int 1), (.ref u1), (.ref br4)]) rfl 0 rfl (by decide) (pc := 102) (Ls := (lc12 i0 i1 i2 i3 z1 z2 z3 1 1 0 u1 u2 u3 br4)) hml rfl (lenOf pd_4 rfl) at_102 hby
          obtain ⟨rfl, Nr7q, Kr7, f28⟩ := hQr7
          have N6 := Fr.app N5 Nr7q
          have f29 : Exa Z Tr7.heap br4 zs22 := (f24.keep Kr7)
          have f30 : Fld Z Tr7.heap br4 zs22 "counts" "[I" (.ref b1) := (f25.keep Kr7 (ninS ne3 nin0))
          have f31 : Exa Z Tr7.heap u1 zs0 := (f26.keep Kr7)
          have f32 : Fld Z Tr7.heap u1 zs26 "ordinal" "I" (.int z1) := (f27.keep Kr7 (ninS ne5 nin0))
          have Z_4 : n0 ≤ Tr7.heap.size := Nat.le_trans Z_3 Kr7.1
          obtain ⟨_, Tr8, Lr8, Xr8, hQr8, str8⟩ := ocallV Xr7 hx hZ zm7 zm7 hown (ww hw 69 rfl) (ww hw 70 rfl) (notFace_of_selects (args := #[]) (mvT hZ (ww hw 72 rfl))) (ww hw 72 rfl) (ww hw 71 rfl) (by decide) (ww hw 73 rfl) (ww hw 13 rfl) rfl f29 (rm8_44 l Z a0 hw [] br4 u1 b1 z1 k1 z2 Tr7.heap n0 Z_4 f30 f31 f32 f28 hs4 hs6 g2) (st := [(.int 0), (.ref u1), (.ref br4)]) rfl 0 rfl (by decide) (pc := 111) (Ls := (lc12 i0 i1 i2 i3 z1 z2 z3 1 1 0 u1 u2 u3 br4)) hml rfl (lenOf pd_4 rfl) at_111 hby
          obtain ⟨rfl, Nr8q, Kr8, f33⟩ := hQr8
          have N7 := Fr.app N6 Nr8q
          refine own_go (U' := Tr8.setTop (mkF m 118 (lc12 i0 i1 i2 i3 z1 z2 z3 1 1 0 u1 u2 u3 br4) [(.int z1), (.int z2)])) (fun t k => oastore Xr3 hx hby at_76 (lc9 i0 i1 i2 i3 z1 z2 z3 1 1 0 u1 u2 u3) rfl rfl (str4 _ (odup Xr4 hx hby at_81 rfl (str5 _ (oastore Xr5 hx hby at_85 (lc12 i0 i1 i2 i3 z1 z2 z3 1 1 0 u1 u2 u3 br4) rfl rfl (oaload Xr5 hx hby at_87 rfl rfl (oaload Xr5 hx hby at_89 rfl rfl (oiload Xr5 hx hby at_91 rfl (str6 _ (oaload Xr6 hx hby at_96 rfl rfl (oaload Xr6 hx hby at_98 rfl rfl (oiload Xr6 hx hby at_100 rfl (str7 _ (oaload Xr7 hx hby at_105 rfl rfl (oaload Xr7 hx hby at_107 rfl rfl (oiload Xr7 hx hby at_109 rfl (str8 _ (oiload Xr8 hx hby at_114 rfl (oiload Xr8 hx hby at_116 rfl k))))))))))))))))))) ?_
          have Z_5 : n0 ≤ Tr8.heap.size := Nat.le_trans Z_4 Kr8.1
          obtain ⟨_, Tr9, Lr9, Xr9, hQr9, str9⟩ := ocallS Xr8 hx hZ zm9 hown (ww hw 83 rfl) (ww hw 84 rfl) (by decide) (ww hw 85 rfl) (ww hw 2 rfl) rfl (rm10_18 l Z a0 hw []  Tr8.heap n0 Z_5 ) (st := [(.int 0)]) rfl 0 rfl (by decide) (pc := 131) (Ls := (lc12 i0 i1 i2 i3 z1 z2 z3 1 1 0 u1 u2 u3 br4)) hml rfl (lenOf pd_5 rfl) at_131 hby
          obtain ⟨rfl, Nr9q, er9⟩ := hQr9
          have N8 := Fr.app N7 Nr9q
          obtain ⟨_, Tr10, Lr10, Xr10, hQr10, str10⟩ := ocallS Xr9 hx hZ zm9 hown (ww hw 83 rfl) (ww hw 84 rfl) (by decide) (ww hw 85 rfl) (ww hw 2 rfl) er9 (rm10_25 l Z a0 hw []  Tr8.heap n0 Z_5 ) (st := [(.int 1), (.int 0)]) rfl 1 rfl (by decide) (pc := 136) (Ls := (lc12 i0 i1 i2 i3 z1 z2 z3 1 1 0 u1 u2 u3 br4)) hml rfl (lenOf pd_5 rfl) at_136 hby
          obtain ⟨rfl, Nr10q, er10⟩ := hQr10
          have N9 := Fr.app N8 Nr10q
          obtain ⟨_, Tr11, Lr11, Xr11, hQr11, str11⟩ := ocallS Xr10 hx hZ zm9 hown (ww hw 83 rfl) (ww hw 84 rfl) (by decide) (ww hw 85 rfl) (ww hw 2 rfl) er10 (rm10_18 l Z a0 hw []  Tr8.heap n0 Z_5 ) (st := [(.int 0), (.int 1)]) rfl 1 rfl (by decide) (pc := 142) (Ls := (lc12 i0 i1 i2 i3 z1 z2 z3 1 1 0 u1 u2 u3 br4)) hml rfl (lenOf pd_5 rfl) at_142 hby
          obtain ⟨rfl, Nr11q, er11⟩ := hQr11
          have N10 := Fr.app N9 Nr11q
          have hc35 : ¬ ((i1 &&& (7 : Int32)) = (i0 &&& (7 : Int32))) := (fun e => by have := congrArg Int32.toInt e; have : ¬ ((i0 &&& (7 : Int32))).toInt = ((i1 &&& (7 : Int32))).toInt := fun e => hk32 (Int32.toInt_inj.mp e); have := c_and i1 (7 : Int32) (by decide); have := (by decide : ((7 : Int32)).toInt = 7); have := c_and i0 (7 : Int32) (by decide); omega)
          have hs36 : ¬ (z2 = z1) := by rw [hz2, hz1]; exact hc35
          refine own_go (U' := Tr11.setTop (mkF m 152 (lc14 i0 i1 i2 i3 z1 z2 z3 1 1 0 u1 u2 u3 br4 1) [(.int z3), (.int z2)])) (fun t k => oicY (pc := 118) Xr8 hx hby at_118 130 (feq hs36).2 (by decide) (oiconst Xr8 hx hby at_130 (str9 _ (oiload Xr9 hx hby at_134 rfl (str10 _ (oiadd Xr10 hx hby at_139 (oiload Xr10 hx hby at_140 rfl (str11 _ (oiadd Xr11 hx hby at_145 (oistore Xr11 hx hby at_146 (lc14 i0 i1 i2 i3 z1 z2 z3 1 1 0 u1 u2 u3 br4 1) rfl (oiload Xr11 hx hby at_148 rfl (oiload Xr11 hx hby at_150 rfl k)))))))))))) ?_
          by_cases hk34 : (i1 &&& (7 : Int32)) = (i2 &&& (7 : Int32))
          · have hc19 : (i1 &&& (7 : Int32)) = (i2 &&& (7 : Int32)) := hk34
            have hs20 : z2 = z3 := by rw [hz3, hz2]; exact hc19
            refine own_go (U' := Tr11.setTop (mkF m 157 (lc14 i0 i1 i2 i3 z1 z2 z3 1 1 0 u1 u2 u3 br4 1) [(.int 1)])) (fun t k => oicN Xr11 hx hby at_152 (teq hs20).2 (oiload Xr11 hx hby at_155 rfl k)) ?_
            obtain ⟨_, Tr12, Lr12, Xr12, hQr12, str12⟩ := ocallS Xr11 hx hZ zm9 hown (ww hw 83 rfl) (ww hw 84 rfl) (by decide) (ww hw 85 rfl) (ww hw 2 rfl) er11 (rm10_25 l Z a0 hw []  Tr8.heap n0 Z_5 ) (st := [(.int 1)]) rfl 0 rfl (by decide) (pc := 165) (Ls := (lc14 i0 i1 i2 i3 z1 z2 z3 1 1 0 u1 u2 u3 br4 1)) hml rfl (lenOf pd_5 rfl) at_165 hby
            obtain ⟨rfl, Nr12q, er12⟩ := hQr12
            have N11 := Fr.app N10 Nr12q
            refine own_go (U' := Tr12.setTop (mkF m 172 (lc14 i0 i1 i2 i3 z1 z2 z3 1 1 0 u1 u2 u3 br4 1) [(.int z3), (.int z1), (.int 1)])) (fun t k => oifN Xr11 hx hby at_157 (by decide) (oiconst Xr11 hx hby at_160 (ogoto (pc := 161) Xr11 hx hby at_161 165 (by decide) (str12 _ (oiload Xr12 hx hby at_168 rfl (oiload Xr12 hx hby at_170 rfl k)))))) ?_
            obtain ⟨_, Tr13, Lr13, Xr13, hQr13, str13⟩ := ocallS Xr12 hx hZ zm9 hown (ww hw 83 rfl) (ww hw 84 rfl) (by decide) (ww hw 85 rfl) (ww hw 2 rfl) er12 (rm10_18 l Z a0 hw []  Tr8.heap n0 Z_5 ) (st := [(.int 0), (.int 1)]) rfl 1 rfl (by decide) (pc := 185) (Ls := (lc14 i0 i1 i2 i3 z1 z2 z3 1 1 0 u1 u2 u3 br4 1)) hml rfl (lenOf pd_5 rfl) at_185 hby
            obtain ⟨rfl, Nr13q, er13⟩ := hQr13
            have N12 := Fr.app N11 Nr13q
            have hc27 : ¬ ((i0 &&& (7 : Int32)) = (i2 &&& (7 : Int32))) := (fun e => by have := congrArg Int32.toInt e; have : ¬ ((i0 &&& (7 : Int32))).toInt = ((i1 &&& (7 : Int32))).toInt := fun e => hk32 (Int32.toInt_inj.mp e); have := congrArg Int32.toInt hk34; have := c_and i0 (7 : Int32) (by decide); have := (by decide : ((7 : Int32)).toInt = 7); have := c_and i2 (7 : Int32) (by decide); have := c_and i1 (7 : Int32) (by decide); omega)
            have hs28 : ¬ (z1 = z3) := by rw [hz3, hz1]; exact hc27
            refine own_go (U' := Tr13.setTop (mkF m 193 (lc14 i0 i1 i2 i3 z1 z2 z3 1 1 0 u1 u2 u3 br4 1) [(.int z3), (.int z1), (.int 1)])) (fun t k => oicY (pc := 172) Xr12 hx hby at_172 184 (feq hs28).2 (by decide) (oiconst Xr12 hx hby at_184 (str13 _ (oiadd Xr13 hx hby at_188 (oiload Xr13 hx hby at_189 rfl (oiload Xr13 hx hby at_191 rfl k)))))) ?_
            obtain ⟨_, Tr14, Lr14, Xr14, hQr14, str14⟩ := ocallS Xr13 hx hZ zm9 hown (ww hw 83 rfl) (ww hw 84 rfl) (by decide) (ww hw 85 rfl) (ww hw 2 rfl) er13 (rm10_18 l Z a0 hw []  Tr8.heap n0 Z_5 ) (st := [(.int 0), (.int 1)]) rfl 1 rfl (by decide) (pc := 206) (Ls := (lc14 i0 i1 i2 i3 z1 z2 z3 1 1 0 u1 u2 u3 br4 1)) hml rfl (lenOf pd_5 rfl) at_206 hby
            obtain ⟨rfl, Nr14q, er14⟩ := hQr14
            have N13 := Fr.app N12 Nr14q
            have f34 : Exa Z Tr8.heap br4 zs22 := (f29.keep Kr8)
            have f35 : Fld Z Tr8.heap br4 zs22 "counts" "[I" (.ref b1) := (f30.keep Kr8 (ninS ne3 nin0))
            have f36 : Exa Z Tr8.heap u1 zs0 := (f31.keep Kr8)
            have f37 : Fld Z Tr8.heap u1 zs26 "ordinal" "I" (.int z1) := (f32.keep Kr8 (ninS ne5 nin0))
            obtain ⟨_, Tr15, Lr15, Xr15, hQr15, str15⟩ := ocallV Xr14 hx hZ zm10 zm10 hown (ww hw 86 rfl) (ww hw 87 rfl) (notFace_of_selects (args := #[]) (mvT hZ (ww hw 89 rfl))) (ww hw 89 rfl) (ww hw 88 rfl) (by decide) (ww hw 90 rfl) (ww hw 13 rfl) er14 f34 (rm11_45 l Z a0 hw [] br4 u1 b1 z1 k1 z2 Tr8.heap n0 Z_5 f35 f36 f37 f33 hs4 hs6) (st := [(.ref u1), (.ref br4)]) rfl 0 rfl (by decide) (pc := 216) (Ls := (lc15 i0 i1 i2 i3 z1 z2 z3 1 1 0 u1 u2 u3 br4 1 1)) hml rfl (lenOf pd_6 rfl) at_216 hby
            obtain ⟨rfl, Nr15q, er15⟩ := hQr15
            have N14 := Fr.app N13 Nr15q
            refine own_go (U' := Tr15.setTop (mkF m 221 (lc15 i0 i1 i2 i3 z1 z2 z3 1 1 0 u1 u2 u3 br4 1 1) [(.int 1), (.int 1)])) (fun t k => oicY (pc := 193) Xr13 hx hby at_193 205 (feq hs28).2 (by decide) (oiconst Xr13 hx hby at_205 (str14 _ (oiadd Xr14 hx hby at_209 (oistore Xr14 hx hby at_210 (lc15 i0 i1 i2 i3 z1 z2 z3 1 1 0 u1 u2 u3 br4 1 1) rfl (oaload Xr14 hx hby at_212 rfl rfl (oaload Xr14 hx hby at_214 rfl rfl (str15 _ (oiload Xr15 hx hby at_219 rfl k))))))))) ?_
            have f38 : Exa Z Tr8.heap u3 zs0 := (((((Exa.ext Er4 f5).keep Kr5).keep Kr6).keep Kr7).keep Kr8)
            have ne6 : u3 ≠ br4 := Nat.ne_of_lt (Nat.lt_of_lt_of_le (f6.lt) (Nat.le_of_eq gr4.symm))
            have ne7 : u3 ≠ b1 := Nat.ne_of_lt (Nat.lt_of_lt_of_le (Nat.lt_of_lt_of_le (f6.lt) Er4.1) sz1)
            have f39 : Fld Z Tr8.heap u3 zs26 "ordinal" "I" (.int z3) := (((((Fld.ext Er4 f6).keep Kr5 (ninS ne6 nin0)).keep Kr6 (ninS ne7 nin0)).keep Kr7 (ninS ne7 nin0)).keep Kr8 (ninS ne7 nin0))
            have hc29 : ¬ ((i2 &&& (7 : Int32)) = (i0 &&& (7 : Int32))) := (fun e => by have := congrArg Int32.toInt e; have : ¬ ((i0 &&& (7 : Int32))).toInt = ((i1 &&& (7 : Int32))).toInt := fun e => hk32 (Int32.toInt_inj.mp e); have := congrArg Int32.toInt hk34; have := c_and i2 (7 : Int32) (by decide); have := (by decide : ((7 : Int32)).toInt = 7); have := c_and i0 (7 : Int32) (by decide); have := c_and i1 (7 : Int32) (by decide); omega)
            have hs30 : ¬ (z3 = z1) := by rw [hz3, hz1]; exact hc29
            have hc37 : (i2 &&& (7 : Int32)) = (i1 &&& (7 : Int32)) := (Int32.toInt_inj.mp (by have := congrArg Int32.toInt hk34; have := c_and i2 (7 : Int32) (by decide); have := (by decide : ((7 : Int32)).toInt = 7); have := c_and i1 (7 : Int32) (by decide); omega))
            have hs38 : z3 = z2 := by rw [hz3, hz2]; exact hc37
            obtain ⟨_, Tr16, Lr16, Xr16, hQr16, str16⟩ := ocallV Xr15 hx hZ zm10 zm10 hown (ww hw 86 rfl) (ww hw 87 rfl) (notFace_of_selects (args := #[]) (mvT hZ (ww hw 89 rfl))) (ww hw 89 rfl) (ww hw 88 rfl) (by decide) (ww hw 90 rfl) (ww hw 13 rfl) er15 f34 (rm11_69 l Z a0 hw [] br4 u3 b1 z3 k1 z1 z2 Tr8.heap n0 Z_5 f35 f38 f39 f33 hs12 hs14 hs30 hs38) (st := [(.ref u3), (.ref br4)]) rfl 0 rfl (by decide) (pc := 228) (Ls := (lc15 i0 i1 i2 i3 z1 z2 z3 1 1 0 u1 u2 u3 br4 1 1)) hml rfl (lenOf pd_6 rfl) at_228 hby
            obtain ⟨rfl, Nr16q, er16⟩ := hQr16
            have N15 := Fr.app N14 Nr16q
            refine own_go (U' := Tr16.setTop (mkF m 233 (lc15 i0 i1 i2 i3 z1 z2 z3 1 1 0 u1 u2 u3 br4 1 1) [(.int 1), (.int 1)])) (fun t k => oicN Xr15 hx hby at_221 (by decide) (oaload Xr15 hx hby at_224 rfl rfl (oaload Xr15 hx hby at_226 rfl rfl (str16 _ (oiload Xr16 hx hby at_231 rfl k))))) ?_
            refine own_go (U' := Tr16.setTop (mkF m 241 (lc15 i0 i1 i2 i3 z1 z2 z3 1 1 0 u1 u2 u3 br4 1 1) [(.int 1)])) (fun t k => oicN Xr16 hx hby at_233 (by decide) (oiconst Xr16 hx hby at_236 (ogoto (pc := 237) Xr16 hx hby at_237 241 (by decide) k))) ?_
            obtain ⟨fs, hr, hrun, hended, hW, hsame⟩ := Xr16.leave (v := some (.int 1)) (fun h => by rw [Bd.returns] at h; cases h)
            refine own_out ⟨_, _, ?_, hrun, hended, _, _, rfl, ?_, ⟨_, rfl⟩, hW, hsame.mono (by decide) (by decide)⟩
            · exact retN Xr16 hx (t := .boolean) Bd.returns (by simp) (hb hby at_241) hr
            · exact ⟨rfl, N15⟩
          · obtain ⟨_, Tr12, Lr12, Xr12, hQr12, str12⟩ := ocallS Xr11 hx hZ zm9 hown (ww hw 83 rfl) (ww hw 84 rfl) (by decide) (ww hw 85 rfl) (ww hw 2 rfl) er11 (rm10_18 l Z a0 hw []  Tr8.heap n0 Z_5 ) (st := [(.int 0)]) rfl 0 rfl (by decide) (pc := 165) (Ls := (lc14 i0 i1 i2 i3 z1 z2 z3 1 1 0 u1 u2 u3 br4 1)) hml rfl (lenOf pd_5 rfl) at_165 hby
            obtain ⟨rfl, Nr12q, er12⟩ := hQr12
            have N11 := Fr.app N10 Nr12q
            have hc25 : ¬ ((i1 &&& (7 : Int32)) = (i2 &&& (7 : Int32))) := hk34
            have hs26 : ¬ (z2 = z3) := by rw [hz3, hz2]; exact hc25
            refine own_go (U' := Tr12.setTop (mkF m 172 (lc14 i0 i1 i2 i3 z1 z2 z3 1 1 0 u1 u2 u3 br4 1) [(.int z3), (.int z1), (.int 0)])) (fun t k => oicY (pc := 152) Xr11 hx hby at_152 164 (feq hs26).2 (by decide) (oiconst Xr11 hx hby at_164 (str12 _ (oiload Xr12 hx hby at_168 rfl (oiload Xr12 hx hby at_170 rfl k))))) ?_
            by_cases hk35 : (i0 &&& (7 : Int32)) = (i2 &&& (7 : Int32))
            · have hc21 : (i0 &&& (7 : Int32)) = (i2 &&& (7 : Int32)) := hk35
              have hs22 : z1 = z3 := by rw [hz3, hz1]; exact hc21
              refine own_go (U' := Tr12.setTop (mkF m 177 (lc14 i0 i1 i2 i3 z1 z2 z3 1 1 0 u1 u2 u3 br4 1) [(.int 1), (.int 0)])) (fun t k => oicN Xr12 hx hby at_172 (teq hs22).2 (oiload Xr12 hx hby at_175 rfl k)) ?_
              obtain ⟨_, Tr13, Lr13, Xr13, hQr13, str13⟩ := ocallS Xr12 hx hZ zm9 hown (ww hw 83 rfl) (ww hw 84 rfl) (by decide) (ww hw 85 rfl) (ww hw 2 rfl) er12 (rm10_25 l Z a0 hw []  Tr8.heap n0 Z_5 ) (st := [(.int 1), (.int 0)]) rfl 1 rfl (by decide) (pc := 185) (Ls := (lc14 i0 i1 i2 i3 z1 z2 z3 1 1 0 u1 u2 u3 br4 1)) hml rfl (lenOf pd_5 rfl) at_185 hby
              obtain ⟨rfl, Nr13q, er13⟩ := hQr13
              have N12 := Fr.app N11 Nr13q
              refine own_go (U' := Tr13.setTop (mkF m 193 (lc14 i0 i1 i2 i3 z1 z2 z3 1 1 0 u1 u2 u3 br4 1) [(.int z3), (.int z1), (.int 1)])) (fun t k => oifN Xr12 hx hby at_177 (by decide) (oiconst Xr12 hx hby at_180 (ogoto (pc := 181) Xr12 hx hby at_181 185 (by decide) (str13 _ (oiadd Xr13 hx hby at_188 (oiload Xr13 hx hby at_189 rfl (oiload Xr13 hx hby at_191 rfl k))))))) ?_
              refine own_go (U' := Tr13.setTop (mkF m 198 (lc14 i0 i1 i2 i3 z1 z2 z3 1 1 0 u1 u2 u3 br4 1) [(.int 0), (.int 1)])) (fun t k => oicN Xr13 hx hby at_193 (teq hs22).2 (oiload Xr13 hx hby at_196 rfl k)) ?_
              obtain ⟨_, Tr14, Lr14, Xr14, hQr14, str14⟩ := ocallS Xr13 hx hZ zm9 hown (ww hw 83 rfl) (ww hw 84 rfl) (by decide) (ww hw 85 rfl) (ww hw 2 rfl) er13 (rm10_18 l Z a0 hw []  Tr8.heap n0 Z_5 ) (st := [(.int 0), (.int 1)]) rfl 1 rfl (by decide) (pc := 206) (Ls := (lc14 i0 i1 i2 i3 z1 z2 z3 1 1 0 u1 u2 u3 br4 1)) hml rfl (lenOf pd_5 rfl) at_206 hby
              obtain ⟨rfl, Nr14q, er14⟩ := hQr14
              have N13 := Fr.app N12 Nr14q
              have f34 : Exa Z Tr8.heap br4 zs22 := (f29.keep Kr8)
              have f35 : Fld Z Tr8.heap br4 zs22 "counts" "[I" (.ref b1) := (f30.keep Kr8 (ninS ne3 nin0))
              have f36 : Exa Z Tr8.heap u1 zs0 := (f31.keep Kr8)
              have f37 : Fld Z Tr8.heap u1 zs26 "ordinal" "I" (.int z1) := (f32.keep Kr8 (ninS ne5 nin0))
              obtain ⟨_, Tr15, Lr15, Xr15, hQr15, str15⟩ := ocallV Xr14 hx hZ zm10 zm10 hown (ww hw 86 rfl) (ww hw 87 rfl) (notFace_of_selects (args := #[]) (mvT hZ (ww hw 89 rfl))) (ww hw 89 rfl) (ww hw 88 rfl) (by decide) (ww hw 90 rfl) (ww hw 13 rfl) er14 f34 (rm11_45 l Z a0 hw [] br4 u1 b1 z1 k1 z2 Tr8.heap n0 Z_5 f35 f36 f37 f33 hs4 hs6) (st := [(.ref u1), (.ref br4)]) rfl 0 rfl (by decide) (pc := 216) (Ls := (lc15 i0 i1 i2 i3 z1 z2 z3 1 1 0 u1 u2 u3 br4 1 1)) hml rfl (lenOf pd_6 rfl) at_216 hby
              obtain ⟨rfl, Nr15q, er15⟩ := hQr15
              have N14 := Fr.app N13 Nr15q
              refine own_go (U' := Tr15.setTop (mkF m 221 (lc15 i0 i1 i2 i3 z1 z2 z3 1 1 0 u1 u2 u3 br4 1 1) [(.int 1), (.int 1)])) (fun t k => oifY (pc := 198) Xr13 hx hby at_198 205 (by decide) (by decide) (oiconst Xr13 hx hby at_205 (str14 _ (oiadd Xr14 hx hby at_209 (oistore Xr14 hx hby at_210 (lc15 i0 i1 i2 i3 z1 z2 z3 1 1 0 u1 u2 u3 br4 1 1) rfl (oaload Xr14 hx hby at_212 rfl rfl (oaload Xr14 hx hby at_214 rfl rfl (str15 _ (oiload Xr15 hx hby at_219 rfl k))))))))) ?_
              have f38 : Exa Z Tr8.heap u3 zs0 := (((((Exa.ext Er4 f5).keep Kr5).keep Kr6).keep Kr7).keep Kr8)
              have ne6 : u3 ≠ br4 := Nat.ne_of_lt (Nat.lt_of_lt_of_le (f6.lt) (Nat.le_of_eq gr4.symm))
              have ne7 : u3 ≠ b1 := Nat.ne_of_lt (Nat.lt_of_lt_of_le (Nat.lt_of_lt_of_le (f6.lt) Er4.1) sz1)
              have f39 : Fld Z Tr8.heap u3 zs26 "ordinal" "I" (.int z3) := (((((Fld.ext Er4 f6).keep Kr5 (ninS ne6 nin0)).keep Kr6 (ninS ne7 nin0)).keep Kr7 (ninS ne7 nin0)).keep Kr8 (ninS ne7 nin0))
              have hc23 : (i2 &&& (7 : Int32)) = (i0 &&& (7 : Int32)) := (Int32.toInt_inj.mp (by have := congrArg Int32.toInt hk35; have := c_and i2 (7 : Int32) (by decide); have := (by decide : ((7 : Int32)).toInt = 7); have := c_and i0 (7 : Int32) (by decide); omega))
              have hs24 : z3 = z1 := by rw [hz3, hz1]; exact hc23
              obtain ⟨_, Tr16, Lr16, Xr16, hQr16, str16⟩ := ocallV Xr15 hx hZ zm10 zm10 hown (ww hw 86 rfl) (ww hw 87 rfl) (notFace_of_selects (args := #[]) (mvT hZ (ww hw 89 rfl))) (ww hw 89 rfl) (ww hw 88 rfl) (by decide) (ww hw 90 rfl) (ww hw 13 rfl) er15 f34 (rm11_46 l Z a0 hw [] br4 u3 b1 z3 k1 z1 z2 Tr8.heap n0 Z_5 f35 f38 f39 f33 hs12 hs14 hs24) (st := [(.ref u3), (.ref br4)]) rfl 0 rfl (by decide) (pc := 228) (Ls := (lc15 i0 i1 i2 i3 z1 z2 z3 1 1 0 u1 u2 u3 br4 1 1)) hml rfl (lenOf pd_6 rfl) at_228 hby
              obtain ⟨rfl, Nr16q, er16⟩ := hQr16
              have N15 := Fr.app N14 Nr16q
              refine own_go (U' := Tr16.setTop (mkF m 233 (lc15 i0 i1 i2 i3 z1 z2 z3 1 1 0 u1 u2 u3 br4 1 1) [(.int 1), (.int 1)])) (fun t k => oicN Xr15 hx hby at_221 (by decide) (oaload Xr15 hx hby at_224 rfl rfl (oaload Xr15 hx hby at_226 rfl rfl (str16 _ (oiload Xr16 hx hby at_231 rfl k))))) ?_
              refine own_go (U' := Tr16.setTop (mkF m 241 (lc15 i0 i1 i2 i3 z1 z2 z3 1 1 0 u1 u2 u3 br4 1 1) [(.int 1)])) (fun t k => oicN Xr16 hx hby at_233 (by decide) (oiconst Xr16 hx hby at_236 (ogoto (pc := 237) Xr16 hx hby at_237 241 (by decide) k))) ?_
              obtain ⟨fs, hr, hrun, hended, hW, hsame⟩ := Xr16.leave (v := some (.int 1)) (fun h => by rw [Bd.returns] at h; cases h)
              refine own_out ⟨_, _, ?_, hrun, hended, _, _, rfl, ?_, ⟨_, rfl⟩, hW, hsame.mono (by decide) (by decide)⟩
              · exact retN Xr16 hx (t := .boolean) Bd.returns (by simp) (hb hby at_241) hr
              · exact ⟨rfl, N15⟩
            · obtain ⟨_, Tr13, Lr13, Xr13, hQr13, str13⟩ := ocallS Xr12 hx hZ zm9 hown (ww hw 83 rfl) (ww hw 84 rfl) (by decide) (ww hw 85 rfl) (ww hw 2 rfl) er12 (rm10_18 l Z a0 hw []  Tr8.heap n0 Z_5 ) (st := [(.int 0), (.int 0)]) rfl 1 rfl (by decide) (pc := 185) (Ls := (lc14 i0 i1 i2 i3 z1 z2 z3 1 1 0 u1 u2 u3 br4 1)) hml rfl (lenOf pd_5 rfl) at_185 hby
              obtain ⟨rfl, Nr13q, er13⟩ := hQr13
              have N12 := Fr.app N11 Nr13q
              have hc27 : ¬ ((i0 &&& (7 : Int32)) = (i2 &&& (7 : Int32))) := hk35
              have hs28 : ¬ (z1 = z3) := by rw [hz3, hz1]; exact hc27
              refine own_go (U' := Tr13.setTop (mkF m 193 (lc14 i0 i1 i2 i3 z1 z2 z3 1 1 0 u1 u2 u3 br4 1) [(.int z3), (.int z1), (.int 0)])) (fun t k => oicY (pc := 172) Xr12 hx hby at_172 184 (feq hs28).2 (by decide) (oiconst Xr12 hx hby at_184 (str13 _ (oiadd Xr13 hx hby at_188 (oiload Xr13 hx hby at_189 rfl (oiload Xr13 hx hby at_191 rfl k)))))) ?_
              obtain ⟨_, Tr14, Lr14, Xr14, hQr14, str14⟩ := ocallS Xr13 hx hZ zm9 hown (ww hw 83 rfl) (ww hw 84 rfl) (by decide) (ww hw 85 rfl) (ww hw 2 rfl) er13 (rm10_18 l Z a0 hw []  Tr8.heap n0 Z_5 ) (st := [(.int 0), (.int 0)]) rfl 1 rfl (by decide) (pc := 206) (Ls := (lc14 i0 i1 i2 i3 z1 z2 z3 1 1 0 u1 u2 u3 br4 1)) hml rfl (lenOf pd_5 rfl) at_206 hby
              obtain ⟨rfl, Nr14q, er14⟩ := hQr14
              have N13 := Fr.app N12 Nr14q
              have f34 : Exa Z Tr8.heap br4 zs22 := (f29.keep Kr8)
              have f35 : Fld Z Tr8.heap br4 zs22 "counts" "[I" (.ref b1) := (f30.keep Kr8 (ninS ne3 nin0))
              have f36 : Exa Z Tr8.heap u1 zs0 := (f31.keep Kr8)
              have f37 : Fld Z Tr8.heap u1 zs26 "ordinal" "I" (.int z1) := (f32.keep Kr8 (ninS ne5 nin0))
              obtain ⟨_, Tr15, Lr15, Xr15, hQr15, str15⟩ := ocallV Xr14 hx hZ zm10 zm10 hown (ww hw 86 rfl) (ww hw 87 rfl) (notFace_of_selects (args := #[]) (mvT hZ (ww hw 89 rfl))) (ww hw 89 rfl) (ww hw 88 rfl) (by decide) (ww hw 90 rfl) (ww hw 13 rfl) er14 f34 (rm11_45 l Z a0 hw [] br4 u1 b1 z1 k1 z2 Tr8.heap n0 Z_5 f35 f36 f37 f33 hs4 hs6) (st := [(.ref u1), (.ref br4)]) rfl 0 rfl (by decide) (pc := 216) (Ls := (lc15 i0 i1 i2 i3 z1 z2 z3 1 1 0 u1 u2 u3 br4 1 0)) hml rfl (lenOf pd_6 rfl) at_216 hby
              obtain ⟨rfl, Nr15q, er15⟩ := hQr15
              have N14 := Fr.app N13 Nr15q
              refine own_go (U' := Tr15.setTop (mkF m 221 (lc15 i0 i1 i2 i3 z1 z2 z3 1 1 0 u1 u2 u3 br4 1 0) [(.int 1), (.int 1)])) (fun t k => oicY (pc := 193) Xr13 hx hby at_193 205 (feq hs28).2 (by decide) (oiconst Xr13 hx hby at_205 (str14 _ (oiadd Xr14 hx hby at_209 (oistore Xr14 hx hby at_210 (lc15 i0 i1 i2 i3 z1 z2 z3 1 1 0 u1 u2 u3 br4 1 0) rfl (oaload Xr14 hx hby at_212 rfl rfl (oaload Xr14 hx hby at_214 rfl rfl (str15 _ (oiload Xr15 hx hby at_219 rfl k))))))))) ?_
              have f38 : Exa Z Tr8.heap u3 zs0 := (((((Exa.ext Er4 f5).keep Kr5).keep Kr6).keep Kr7).keep Kr8)
              have ne6 : u3 ≠ br4 := Nat.ne_of_lt (Nat.lt_of_lt_of_le (f6.lt) (Nat.le_of_eq gr4.symm))
              have ne7 : u3 ≠ b1 := Nat.ne_of_lt (Nat.lt_of_lt_of_le (Nat.lt_of_lt_of_le (f6.lt) Er4.1) sz1)
              have f39 : Fld Z Tr8.heap u3 zs26 "ordinal" "I" (.int z3) := (((((Fld.ext Er4 f6).keep Kr5 (ninS ne6 nin0)).keep Kr6 (ninS ne7 nin0)).keep Kr7 (ninS ne7 nin0)).keep Kr8 (ninS ne7 nin0))
              have hc29 : ¬ ((i2 &&& (7 : Int32)) = (i0 &&& (7 : Int32))) := (fun e => by have := congrArg Int32.toInt e; have : ¬ ((i0 &&& (7 : Int32))).toInt = ((i2 &&& (7 : Int32))).toInt := fun e => hk35 (Int32.toInt_inj.mp e); have := c_and i2 (7 : Int32) (by decide); have := (by decide : ((7 : Int32)).toInt = 7); have := c_and i0 (7 : Int32) (by decide); omega)
              have hs30 : ¬ (z3 = z1) := by rw [hz3, hz1]; exact hc29
              have hc31 : ¬ ((i2 &&& (7 : Int32)) = (i1 &&& (7 : Int32))) := (fun e => by have := congrArg Int32.toInt e; have : ¬ ((i1 &&& (7 : Int32))).toInt = ((i2 &&& (7 : Int32))).toInt := fun e => hk34 (Int32.toInt_inj.mp e); have := c_and i2 (7 : Int32) (by decide); have := (by decide : ((7 : Int32)).toInt = 7); have := c_and i1 (7 : Int32) (by decide); omega)
              have hs32 : ¬ (z3 = z2) := by rw [hz3, hz2]; exact hc31
              obtain ⟨_, Tr16, Lr16, Xr16, hQr16, str16⟩ := ocallV Xr15 hx hZ zm10 zm10 hown (ww hw 86 rfl) (ww hw 87 rfl) (notFace_of_selects (args := #[]) (mvT hZ (ww hw 89 rfl))) (ww hw 89 rfl) (ww hw 88 rfl) (by decide) (ww hw 90 rfl) (ww hw 13 rfl) er15 f34 (rm11_47 l Z a0 hw [] br4 u3 b1 z3 k1 z1 z2 Tr8.heap n0 Z_5 f35 f38 f39 f33 hs12 hs14 hs30 hs32) (st := [(.ref u3), (.ref br4)]) rfl 0 rfl (by decide) (pc := 228) (Ls := (lc15 i0 i1 i2 i3 z1 z2 z3 1 1 0 u1 u2 u3 br4 1 0)) hml rfl (lenOf pd_6 rfl) at_228 hby
              obtain ⟨rfl, Nr16q, er16⟩ := hQr16
              have N15 := Fr.app N14 Nr16q
              refine own_go (U' := Tr16.setTop (mkF m 233 (lc15 i0 i1 i2 i3 z1 z2 z3 1 1 0 u1 u2 u3 br4 1 0) [(.int 0), (.int 0)])) (fun t k => oicN Xr15 hx hby at_221 (by decide) (oaload Xr15 hx hby at_224 rfl rfl (oaload Xr15 hx hby at_226 rfl rfl (str16 _ (oiload Xr16 hx hby at_231 rfl k))))) ?_
              refine own_go (U' := Tr16.setTop (mkF m 241 (lc15 i0 i1 i2 i3 z1 z2 z3 1 1 0 u1 u2 u3 br4 1 0) [(.int 1)])) (fun t k => oicN Xr16 hx hby at_233 (by decide) (oiconst Xr16 hx hby at_236 (ogoto (pc := 237) Xr16 hx hby at_237 241 (by decide) k))) ?_
              obtain ⟨fs, hr, hrun, hended, hW, hsame⟩ := Xr16.leave (v := some (.int 1)) (fun h => by rw [Bd.returns] at h; cases h)
              refine own_out ⟨_, _, ?_, hrun, hended, _, _, rfl, ?_, ⟨_, rfl⟩, hW, hsame.mono (by decide) (by decide)⟩
              · exact retN Xr16 hx (t := .boolean) Bd.returns (by simp) (hb hby at_241) hr
              · exact ⟨rfl, N15⟩
      · obtain ⟨_, Tr1, Lr1, Xr1, hQr1, str1⟩ := ocallS X0 hx hZ zm0 hown (ww hw 0 rfl) (ww hw 1 rfl) (by decide) (ww hw 3 rfl) (ww hw 2 rfl) e0 (mg1_8 l Z a0 hw [] z1 w0 w4 w2 w1 w5 w6 w7 w8 h0 n0 Z0 S0 S8 S4 S2 S10 S12 S14 S16) (st := [(.int z1)]) rfl 0 rfl (by decide) (pc := 59) (Ls := (lc5 i0 i1 i2 i3 z1 z2 z3 1 1 1)) hml rfl (lenOf pd_0 rfl) at_59 hby
        obtain ⟨rfl, Nr1q, er1⟩ := hQr1
        have hc39 : ¬ ((i3 &&& (4 : Int32)) = (0 : Int32)) := hk31
        refine own_go (U' := Tr1.setTop (mkF m 62 (lc5 i0 i1 i2 i3 z1 z2 z3 1 1 1) [(.ref (own_pick z1 w0 w4 w2 w1 w5 w6 w7 w8))])) (fun t k => oifN X0 hx hby at_47 ((if0 _ _).trans (feq hc39).1) (oiconst X0 hx hby at_50 (ogoto (pc := 51) X0 hx hby at_51 55 (by decide) (oistore X0 hx hby at_55 (lc5 i0 i1 i2 i3 z1 z2 z3 1 1 1) rfl (oiload X0 hx hby at_57 rfl (str1 _ k)))))) ?_
        obtain ⟨u1, hu1⟩ : ∃ z, z = (own_pick z1 w0 w4 w2 w1 w5 w6 w7 w8) := ⟨_, rfl⟩
        rw [← hu1]
        have f1 : Exa Z h0 u1 zs0 := by rw [hu1]; exact own_pick_E S1 S9 S5 S3 S11 S13 S15 S17
        have hc3 : ¬ ((i0 &&& (7 : Int32)) < (0 : Int32)) := (fun e => by have := Int32.lt_iff_toInt_lt.mp e; have := c_and i0 (7 : Int32) (by decide); have := (by decide : ((7 : Int32)).toInt = 7); have := (by decide : ((0 : Int32)).toInt = 0); omega)
        have hs4 : ¬ (z1 < (0 : Int32)) := by rw [hz1]; exact hc3
        have hc5 : (i0 &&& (7 : Int32)) < (8 : Int32) := (Int32.lt_iff_toInt_lt.mpr (by have := c_and i0 (7 : Int32) (by decide); have := (by decide : ((7 : Int32)).toInt = 7); have := (by decide : ((8 : Int32)).toInt = 8); omega))
        have hs6 : z1 < (8 : Int32) := by rw [hz1]; exact hc5
        have f2 : Fld Z h0 u1 zs26 "ordinal" "I" (.int z1) := by rw [hu1]; exact own_pick_O S19 S24 S20 S18 S21 S25 S23 S22 hs4 hs6
        have N1 := Fr.app N0 Nr1q
        obtain ⟨_, Tr2, Lr2, Xr2, hQr2, str2⟩ := ocallS Xr1 hx hZ zm0 hown (ww hw 0 rfl) (ww hw 1 rfl) (by decide) (ww hw 3 rfl) (ww hw 2 rfl) er1 (mg1_8 l Z a0 hw [] z2 w0 w4 w2 w1 w5 w6 w7 w8 h0 n0 Z0 S0 S8 S4 S2 S10 S12 S14 S16) (st := [(.int z2)]) rfl 0 rfl (by decide) (pc := 66) (Ls := (lc7 i0 i1 i2 i3 z1 z2 z3 1 1 1 u1)) hml rfl (lenOf pd_0 rfl) at_66 hby
        obtain ⟨rfl, Nr2q, er2⟩ := hQr2
        refine own_go (U' := Tr2.setTop (mkF m 69 (lc7 i0 i1 i2 i3 z1 z2 z3 1 1 1 u1) [(.ref (own_pick z2 w0 w4 w2 w1 w5 w6 w7 w8))])) (fun t k => oastore Xr1 hx hby at_62 (lc7 i0 i1 i2 i3 z1 z2 z3 1 1 1 u1) rfl rfl (oiload Xr1 hx hby at_64 rfl (str2 _ k))) ?_
        obtain ⟨u2, hu2⟩ : ∃ z, z = (own_pick z2 w0 w4 w2 w1 w5 w6 w7 w8) := ⟨_, rfl⟩
        rw [← hu2]
        have f3 : Exa Z h0 u2 zs0 := by rw [hu2]; exact own_pick_E S1 S9 S5 S3 S11 S13 S15 S17
        have hc7 : ¬ ((i1 &&& (7 : Int32)) < (0 : Int32)) := (fun e => by have := Int32.lt_iff_toInt_lt.mp e; have := c_and i1 (7 : Int32) (by decide); have := (by decide : ((7 : Int32)).toInt = 7); have := (by decide : ((0 : Int32)).toInt = 0); omega)
        have hs8 : ¬ (z2 < (0 : Int32)) := by rw [hz2]; exact hc7
        have hc9 : (i1 &&& (7 : Int32)) < (8 : Int32) := (Int32.lt_iff_toInt_lt.mpr (by have := c_and i1 (7 : Int32) (by decide); have := (by decide : ((7 : Int32)).toInt = 7); have := (by decide : ((8 : Int32)).toInt = 8); omega))
        have hs10 : z2 < (8 : Int32) := by rw [hz2]; exact hc9
        have f4 : Fld Z h0 u2 zs26 "ordinal" "I" (.int z2) := by rw [hu2]; exact own_pick_O S19 S24 S20 S18 S21 S25 S23 S22 hs8 hs10
        have N2 := Fr.app N1 Nr2q
        obtain ⟨_, Tr3, Lr3, Xr3, hQr3, str3⟩ := ocallS Xr2 hx hZ zm0 hown (ww hw 0 rfl) (ww hw 1 rfl) (by decide) (ww hw 3 rfl) (ww hw 2 rfl) er2 (mg1_8 l Z a0 hw [] z3 w0 w4 w2 w1 w5 w6 w7 w8 h0 n0 Z0 S0 S8 S4 S2 S10 S12 S14 S16) (st := [(.int z3)]) rfl 0 rfl (by decide) (pc := 73) (Ls := (lc8 i0 i1 i2 i3 z1 z2 z3 1 1 1 u1 u2)) hml rfl (lenOf pd_0 rfl) at_73 hby
        obtain ⟨rfl, Nr3q, er3⟩ := hQr3
        refine own_go (U' := Tr3.setTop (mkF m 76 (lc8 i0 i1 i2 i3 z1 z2 z3 1 1 1 u1 u2) [(.ref (own_pick z3 w0 w4 w2 w1 w5 w6 w7 w8))])) (fun t k => oastore Xr2 hx hby at_69 (lc8 i0 i1 i2 i3 z1 z2 z3 1 1 1 u1 u2) rfl rfl (oiload Xr2 hx hby at_71 rfl (str3 _ k))) ?_
        obtain ⟨u3, hu3⟩ : ∃ z, z = (own_pick z3 w0 w4 w2 w1 w5 w6 w7 w8) := ⟨_, rfl⟩
        rw [← hu3]
        have f5 : Exa Z h0 u3 zs0 := by rw [hu3]; exact own_pick_E S1 S9 S5 S3 S11 S13 S15 S17
        have hc11 : ¬ ((i2 &&& (7 : Int32)) < (0 : Int32)) := (fun e => by have := Int32.lt_iff_toInt_lt.mp e; have := c_and i2 (7 : Int32) (by decide); have := (by decide : ((7 : Int32)).toInt = 7); have := (by decide : ((0 : Int32)).toInt = 0); omega)
        have hs12 : ¬ (z3 < (0 : Int32)) := by rw [hz3]; exact hc11
        have hc13 : (i2 &&& (7 : Int32)) < (8 : Int32) := (Int32.lt_iff_toInt_lt.mpr (by have := c_and i2 (7 : Int32) (by decide); have := (by decide : ((7 : Int32)).toInt = 7); have := (by decide : ((8 : Int32)).toInt = 8); omega))
        have hs14 : z3 < (8 : Int32) := by rw [hz3]; exact hc13
        have f6 : Fld Z h0 u3 zs26 "ordinal" "I" (.int z3) := by rw [hu3]; exact own_pick_O S19 S24 S20 S18 S21 S25 S23 S22 hs12 hs14
        have N3 := Fr.app N2 Nr3q
        obtain ⟨Tr4, hr4, Xr4, er4, Er4, Ar4, Dr4, -, str4⟩ := newO Xr3 hx hZ hown (ww hw 11 rfl) (ww hw 12 rfl) (ww hw 13 rfl) er3 (g := (mkF m 78 (lc9 i0 i1 i2 i3 z1 z2 z3 1 1 1 u1 u2 u3) [])) rfl (hb hby at_78) (by decide) (by decide)
        obtain ⟨br4, gr4⟩ : ∃ z, z = h0.size := ⟨_, rfl⟩
        rw [← gr4] at Ar4 Dr4 str4
        have f7 : Fld Z hr4 br4 zs22 "counts" "[I" .null := Dr4 (Or.inr (ww hw 42 rfl)) (ty := (.array .int)) (by decide)
        have f8 : Fld Z hr4 br4 zs22 zs23 zs24 .null := Dr4 (Or.inr (ww hw 68 rfl)) (ty := (.object zs25)) (by decide)
        have f9 : Sta Z hr4 zs0 "$VALUES" zs12 (.ref w3) := (Sta.ext Er4 S6)
        have f10 : Arv Z hr4 w3 kl0 (.object zs0) (8 : Int32) [(.ref w0), (.ref w4), (.ref w2), (.ref w1), (.ref w5), (.ref w6), (.ref w7), (.ref w8)] .null := (S30.ext Er4)
        have f11 : Exa Z hr4 w3 zs12 := (Exa.ext Er4 S7)
        have g1 : n0 ≤ br4 := Nat.le_trans Z0 (Nat.le_of_eq gr4.symm)
        have f12 : Sta Z hr4 zs17 zs21 zs19 (.ref w10) := (Sta.ext Er4 S28)
        have Z_1 : n0 ≤ hr4.size := Nat.le_trans Z0 Er4.1
        obtain ⟨_, Tr5, Lr5, Xr5, hQr5, str5⟩ := ocallI Xr4 hx hZ zm5 rfl hown (ww hw 14 rfl) (ww hw 15 rfl) (by decide) (ww hw 16 rfl) (ww hw 13 rfl) er4 (rm2_13 l Z a0 hw [] br4 w3 w0 w4 w2 w1 w5 w6 w7 w8 kl0 w10 hr4 n0 Z_1 f9 f10 f11 f7 f8 Ar4 g1 f12) (st := [(.ref br4), (.ref br4)]) rfl 1 rfl (by decide) (pc := 82) (Ls := (lc9 i0 i1 i2 i3 z1 z2 z3 1 1 1 u1 u2 u3)) hml rfl (lenOf pd_2 rfl) at_82 hby
        obtain ⟨b1, b2, k1, rfl, Nr5q, Kr5, sz1, sz2, ne1, f13, f14, f15, f16, f17, f18, f19⟩ := hQr5
        have N4 := Fr.app N3 Nr5q
        have f20 : Exa Z Tr5.heap br4 zs22 := (Ar4.keep Kr5)
        have f21 : Exa Z Tr5.heap u2 zs0 := ((Exa.ext Er4 f3).keep Kr5)
        have ne2 : u2 ≠ br4 := Nat.ne_of_lt (Nat.lt_of_lt_of_le (f4.lt) (Nat.le_of_eq gr4.symm))
        have f22 : Fld Z Tr5.heap u2 zs26 "ordinal" "I" (.int z2) := ((Fld.ext Er4 f4).keep Kr5 (ninS ne2 nin0))
        have g2 : n0 ≤ b1 := Nat.le_trans Z_1 sz1
        have Z_2 : n0 ≤ Tr5.heap.size := Nat.le_trans Z_1 Kr5.1
        obtain ⟨_, Tr6, Lr6, Xr6, hQr6, str6⟩ := ocallV Xr5 hx hZ zm7 zm7 hown (ww hw 69 rfl) (ww hw 70 rfl) (notFace_of_selects (args := #[]) (mvT hZ (ww hw 72 rfl))) (ww hw 72 rfl) (ww hw 71 rfl) (by decide) (ww hw 73 rfl) (ww hw 13 rfl) rfl f20 (rm8_42 l Z a0 hw [] br4 u2 b1 z2 k1 Tr5.heap n0 Z_2 f13 f21 f22 f16 hs8 hs10 g2) (st := [(.int 1), (.ref u2), (.ref br4)]) rfl 0 rfl (by decide) (pc := 93) (Ls := (lc12 i0 i1 i2 i3 z1 z2 z3 1 1 1 u1 u2 u3 br4)) hml rfl (lenOf pd_4 rfl) at_93 hby
        obtain ⟨rfl, Nr6q, Kr6, f23⟩ := hQr6
        have N5 := Fr.app N4 Nr6q
        have f24 : Exa Z Tr6.heap br4 zs22 := (f20.keep Kr6)
        have ne3 : br4 ≠ b1 := Nat.ne_of_lt (Nat.lt_of_lt_of_le (f7.lt) sz1)
        have f25 : Fld Z Tr6.heap br4 zs22 "counts" "[I" (.ref b1) := (f13.keep Kr6 (ninS ne3 nin0))
        have f26 : Exa Z Tr6.heap u1 zs0 := (((Exa.ext Er4 f1).keep Kr5).keep Kr6)
        have ne4 : u1 ≠ br4 := Nat.ne_of_lt (Nat.lt_of_lt_of_le (f2.lt) (Nat.le_of_eq gr4.symm))
        have ne5 : u1 ≠ b1 := Nat.ne_of_lt (Nat.lt_of_lt_of_le (Nat.lt_of_lt_of_le (f2.lt) Er4.1) sz1)
        have f27 : Fld Z Tr6.heap u1 zs26 "ordinal" "I" (.int z1) := (((Fld.ext Er4 f2).keep Kr5 (ninS ne4 nin0)).keep Kr6 (ninS ne5 nin0))
        have Z_3 : n0 ≤ Tr6.heap.size := Nat.le_trans Z_2 Kr6.1
        by_cases hk36 : (i0 &&& (7 : Int32)) = (i1 &&& (7 : Int32))
        · have hc15 : (i0 &&& (7 : Int32)) = (i1 &&& (7 : Int32)) := hk36
          have hs16 : z1 = z2 := by rw [hz2, hz1]; exact hc15
          obtain ⟨_, Tr7, Lr7, Xr7, hQr7, str7⟩ := ocallV Xr6 hx hZ zm7 zm7 hown (ww hw 69 rfl) (ww hw 70 rfl) (notFace_of_selects (args := #[]) (mvT hZ (ww hw 72 rfl))) (ww hw 72 rfl) (ww hw 71 rfl) (by decide) (ww hw 73 rfl) (ww hw 13 rfl) rfl f24 (rm8_63 l Z a0 hw [] br4 u1 b1 z1 k1 z2 Tr6.heap n0 Z_3 f25 f26 f27 f23 hs4 hs6 hs16 g2) (st := [(.int 1), (.ref u1), (.ref br4)]) rfl 0 rfl (by decide) (pc := 102) (Ls := (lc12 i0 i1 i2 i3 z1 z2 z3 1 1 1 u1 u2 u3 br4)) hml rfl (lenOf pd_4 rfl) at_102 hby
          obtain ⟨rfl, Nr7q, Kr7, f28⟩ := hQr7
          have N6 := Fr.app N5 Nr7q
          have f29 : Exa Z Tr7.heap br4 zs22 := (f24.keep Kr7)
          have f30 : Fld Z Tr7.heap br4 zs22 "counts" "[I" (.ref b1) := (f25.keep Kr7 (ninS ne3 nin0))
          have f31 : Exa Z Tr7.heap u1 zs0 := (f26.keep Kr7)
          have f32 : Fld Z Tr7.heap u1 zs26 "ordinal" "I" (.int z1) := (f27.keep Kr7 (ninS ne5 nin0))
          have Z_4 : n0 ≤ Tr7.heap.size := Nat.le_trans Z_3 Kr7.1
          obtain ⟨_, Tr8, Lr8, Xr8, hQr8, str8⟩ := ocallV Xr7 hx hZ zm7 zm7 hown (ww hw 69 rfl) (ww hw 70 rfl) (notFace_of_selects (args := #[]) (mvT hZ (ww hw 72 rfl))) (ww hw 72 rfl) (ww hw 71 rfl) (by decide) (ww hw 73 rfl) (ww hw 13 rfl) rfl f29 (rm8_70 l Z a0 hw [] br4 u1 b1 z1 k1 z2 Tr7.heap n0 Z_4 f30 f31 f32 f28 hs4 hs6 g2) (st := [(.int 1), (.ref u1), (.ref br4)]) rfl 0 rfl (by decide) (pc := 111) (Ls := (lc12 i0 i1 i2 i3 z1 z2 z3 1 1 1 u1 u2 u3 br4)) hml rfl (lenOf pd_4 rfl) at_111 hby
          obtain ⟨rfl, Nr8q, Kr8, f33⟩ := hQr8
          have N7 := Fr.app N6 Nr8q
          refine own_go (U' := Tr8.setTop (mkF m 118 (lc12 i0 i1 i2 i3 z1 z2 z3 1 1 1 u1 u2 u3 br4) [(.int z1), (.int z2)])) (fun t k => oastore Xr3 hx hby at_76 (lc9 i0 i1 i2 i3 z1 z2 z3 1 1 1 u1 u2 u3) rfl rfl (str4 _ (odup Xr4 hx hby at_81 rfl (str5 _ (oastore Xr5 hx hby at_85 (lc12 i0 i1 i2 i3 z1 z2 z3 1 1 1 u1 u2 u3 br4) rfl rfl (oaload Xr5 hx hby at_87 rfl rfl (oaload Xr5 hx hby at_89 rfl rfl (oiload Xr5 hx hby at_91 rfl (str6 _ (oaload Xr6 hx hby at_96 rfl rfl (oaload Xr6 hx hby at_98 rfl rfl (oiload Xr6 hx hby at_100 rfl (str7 _ (oaload Xr7 hx hby at_105 rfl rfl (oaload Xr7 hx hby at_107 rfl rfl (oiload Xr7 hx hby at_109 rfl (str8 _ (oiload Xr8 hx hby at_114 rfl (oiload Xr8 hx hby at_116 rfl k))))))))))))))))))) ?_
          have hc17 : (i1 &&& (7 : Int32)) = (i0 &&& (7 : Int32)) := (Int32.toInt_inj.mp (by have := congrArg Int32.toInt hk36; have := c_and i1 (7 : Int32) (by decide); have := (by decide : ((7 : Int32)).toInt = 7); have := c_and i0 (7 : Int32) (by decide); omega))
          have hs18 : z2 = z1 := by rw [hz2, hz1]; exact hc17
          refine own_go (U' := Tr8.setTop (mkF m 123 (lc12 i0 i1 i2 i3 z1 z2 z3 1 1 1 u1 u2 u3 br4) [(.int 1)])) (fun t k => oicN Xr8 hx hby at_118 (teq hs18).2 (oiload Xr8 hx hby at_121 rfl k)) ?_
          have Z_5 : n0 ≤ Tr8.heap.size := Nat.le_trans Z_4 Kr8.1
          obtain ⟨_, Tr9, Lr9, Xr9, hQr9, str9⟩ := ocallS Xr8 hx hZ zm9 hown (ww hw 83 rfl) (ww hw 84 rfl) (by decide) (ww hw 85 rfl) (ww hw 2 rfl) rfl (rm10_25 l Z a0 hw []  Tr8.heap n0 Z_5 ) (st := [(.int 1)]) rfl 0 rfl (by decide) (pc := 131) (Ls := (lc12 i0 i1 i2 i3 z1 z2 z3 1 1 1 u1 u2 u3 br4)) hml rfl (lenOf pd_5 rfl) at_131 hby
          obtain ⟨rfl, Nr9q, er9⟩ := hQr9
          have N8 := Fr.app N7 Nr9q
          obtain ⟨_, Tr10, Lr10, Xr10, hQr10, str10⟩ := ocallS Xr9 hx hZ zm9 hown (ww hw 83 rfl) (ww hw 84 rfl) (by decide) (ww hw 85 rfl) (ww hw 2 rfl) er9 (rm10_25 l Z a0 hw []  Tr8.heap n0 Z_5 ) (st := [(.int 1), (.int 1)]) rfl 1 rfl (by decide) (pc := 136) (Ls := (lc12 i0 i1 i2 i3 z1 z2 z3 1 1 1 u1 u2 u3 br4)) hml rfl (lenOf pd_5 rfl) at_136 hby
          obtain ⟨rfl, Nr10q, er10⟩ := hQr10
          have N9 := Fr.app N8 Nr10q
          obtain ⟨_, Tr11, Lr11, Xr11, hQr11, str11⟩ := ocallS Xr10 hx hZ zm9 hown (ww hw 83 rfl) (ww hw 84 rfl) (by decide) (ww hw 85 rfl) (ww hw 2 rfl) er10 (rm10_25 l Z a0 hw []  Tr8.heap n0 Z_5 ) (st := [(.int 1), (.int 2)]) rfl 1 rfl (by decide) (pc := 142) (Ls := (lc12 i0 i1 i2 i3 z1 z2 z3 1 1 1 u1 u2 u3 br4)) hml rfl (lenOf pd_5 rfl) at_142 hby
          obtain ⟨rfl, Nr11q, er11⟩ := hQr11
          have N10 := Fr.app N9 Nr11q
          refine own_go (U' := Tr11.setTop (mkF m 152 (lc14 i0 i1 i2 i3 z1 z2 z3 1 1 1 u1 u2 u3 br4 3) [(.int z3), (.int z2)])) (fun t k => oifN Xr8 hx hby at_123 (by decide) (oiconst Xr8 hx hby at_126 (ogoto (pc := 127) Xr8 hx hby at_127 131 (by decide) (str9 _ (oiload Xr9 hx hby at_134 rfl (str10 _ (oiadd Xr10 hx hby at_139 (oiload Xr10 hx hby at_140 rfl (str11 _ (oiadd Xr11 hx hby at_145 (oistore Xr11 hx hby at_146 (lc14 i0 i1 i2 i3 z1 z2 z3 1 1 1 u1 u2 u3 br4 3) rfl (oiload Xr11 hx hby at_148 rfl (oiload Xr11 hx hby at_150 rfl k))))))))))))) ?_
          by_cases hk37 : (i1 &&& (7 : Int32)) = (i2 &&& (7 : Int32))
          · have hc19 : (i1 &&& (7 : Int32)) = (i2 &&& (7 : Int32)) := hk37
            have hs20 : z2 = z3 := by rw [hz3, hz2]; exact hc19
            refine own_go (U' := Tr11.setTop (mkF m 157 (lc14 i0 i1 i2 i3 z1 z2 z3 1 1 1 u1 u2 u3 br4 3) [(.int 1)])) (fun t k => oicN Xr11 hx hby at_152 (teq hs20).2 (oiload Xr11 hx hby at_155 rfl k)) ?_
            obtain ⟨_, Tr12, Lr12, Xr12, hQr12, str12⟩ := ocallS Xr11 hx hZ zm9 hown (ww hw 83 rfl) (ww hw 84 rfl) (by decide) (ww hw 85 rfl) (ww hw 2 rfl) er11 (rm10_25 l Z a0 hw []  Tr8.heap n0 Z_5 ) (st := [(.int 1)]) rfl 0 rfl (by decide) (pc := 165) (Ls := (lc14 i0 i1 i2 i3 z1 z2 z3 1 1 1 u1 u2 u3 br4 3)) hml rfl (lenOf pd_5 rfl) at_165 hby
            obtain ⟨rfl, Nr12q, er12⟩ := hQr12
            have N11 := Fr.app N10 Nr12q
            refine own_go (U' := Tr12.setTop (mkF m 172 (lc14 i0 i1 i2 i3 z1 z2 z3 1 1 1 u1 u2 u3 br4 3) [(.int z3), (.int z1), (.int 1)])) (fun t k => oifN Xr11 hx hby at_157 (by decide) (oiconst Xr11 hx hby at_160 (ogoto (pc := 161) Xr11 hx hby at_161 165 (by decide) (str12 _ (oiload Xr12 hx hby at_168 rfl (oiload Xr12 hx hby at_170 rfl k)))))) ?_
            have hc21 : (i0 &&& (7 : Int32)) = (i2 &&& (7 : Int32)) := (Int32.toInt_inj.mp (by have := congrArg Int32.toInt hk36; have := congrArg Int32.toInt hk37; have := c_and i0 (7 : Int32) (by decide); have := (by decide : ((7 : Int32)).toInt = 7); have := c_and i2 (7 : Int32) (by decide); have := c_and i1 (7 : Int32) (by decide); omega))
            have hs22 : z1 = z3 := by rw [hz3, hz1]; exact hc21
            refine own_go (U' := Tr12.setTop (mkF m 177 (lc14 i0 i1 i2 i3 z1 z2 z3 1 1 1 u1 u2 u3 br4 3) [(.int 1), (.int 1)])) (fun t k => oicN Xr12 hx hby at_172 (teq hs22).2 (oiload Xr12 hx hby at_175 rfl k)) ?_
            obtain ⟨_, Tr13, Lr13, Xr13, hQr13, str13⟩ := ocallS Xr12 hx hZ zm9 hown (ww hw 83 rfl) (ww hw 84 rfl) (by decide) (ww hw 85 rfl) (ww hw 2 rfl) er12 (rm10_25 l Z a0 hw []  Tr8.heap n0 Z_5 ) (st := [(.int 1), (.int 1)]) rfl 1 rfl (by decide) (pc := 185) (Ls := (lc14 i0 i1 i2 i3 z1 z2 z3 1 1 1 u1 u2 u3 br4 3)) hml rfl (lenOf pd_5 rfl) at_185 hby
            obtain ⟨rfl, Nr13q, er13⟩ := hQr13
            have N12 := Fr.app N11 Nr13q
            refine own_go (U' := Tr13.setTop (mkF m 193 (lc14 i0 i1 i2 i3 z1 z2 z3 1 1 1 u1 u2 u3 br4 3) [(.int z3), (.int z1), (.int 2)])) (fun t k => oifN Xr12 hx hby at_177 (by decide) (oiconst Xr12 hx hby at_180 (ogoto (pc := 181) Xr12 hx hby at_181 185 (by decide) (str13 _ (oiadd Xr13 hx hby at_188 (oiload Xr13 hx hby at_189 rfl (oiload Xr13 hx hby at_191 rfl k))))))) ?_
            refine own_go (U' := Tr13.setTop (mkF m 198 (lc14 i0 i1 i2 i3 z1 z2 z3 1 1 1 u1 u2 u3 br4 3) [(.int 1), (.int 2)])) (fun t k => oicN Xr13 hx hby at_193 (teq hs22).2 (oiload Xr13 hx hby at_196 rfl k)) ?_
            obtain ⟨_, Tr14, Lr14, Xr14, hQr14, str14⟩ := ocallS Xr13 hx hZ zm9 hown (ww hw 83 rfl) (ww hw 84 rfl) (by decide) (ww hw 85 rfl) (ww hw 2 rfl) er13 (rm10_25 l Z a0 hw []  Tr8.heap n0 Z_5 ) (st := [(.int 1), (.int 2)]) rfl 1 rfl (by decide) (pc := 206) (Ls := (lc14 i0 i1 i2 i3 z1 z2 z3 1 1 1 u1 u2 u3 br4 3)) hml rfl (lenOf pd_5 rfl) at_206 hby
            obtain ⟨rfl, Nr14q, er14⟩ := hQr14
            have N13 := Fr.app N12 Nr14q
            have f34 : Exa Z Tr8.heap br4 zs22 := (f29.keep Kr8)
            have f35 : Fld Z Tr8.heap br4 zs22 "counts" "[I" (.ref b1) := (f30.keep Kr8 (ninS ne3 nin0))
            have f36 : Exa Z Tr8.heap u1 zs0 := (f31.keep Kr8)
            have f37 : Fld Z Tr8.heap u1 zs26 "ordinal" "I" (.int z1) := (f32.keep Kr8 (ninS ne5 nin0))
            obtain ⟨_, Tr15, Lr15, Xr15, hQr15, str15⟩ := ocallV Xr14 hx hZ zm10 zm10 hown (ww hw 86 rfl) (ww hw 87 rfl) (notFace_of_selects (args := #[]) (mvT hZ (ww hw 89 rfl))) (ww hw 89 rfl) (ww hw 88 rfl) (by decide) (ww hw 90 rfl) (ww hw 13 rfl) er14 f34 (rm11_71 l Z a0 hw [] br4 u1 b1 z1 k1 z2 Tr8.heap n0 Z_5 f35 f36 f37 f33 hs4 hs6) (st := [(.ref u1), (.ref br4)]) rfl 0 rfl (by decide) (pc := 216) (Ls := (lc15 i0 i1 i2 i3 z1 z2 z3 1 1 1 u1 u2 u3 br4 3 3)) hml rfl (lenOf pd_6 rfl) at_216 hby
            obtain ⟨rfl, Nr15q, er15⟩ := hQr15
            have N14 := Fr.app N13 Nr15q
            refine own_go (U' := Tr15.setTop (mkF m 221 (lc15 i0 i1 i2 i3 z1 z2 z3 1 1 1 u1 u2 u3 br4 3 3) [(.int 3), (.int 3)])) (fun t k => oifN Xr13 hx hby at_198 (by decide) (oiconst Xr13 hx hby at_201 (ogoto (pc := 202) Xr13 hx hby at_202 206 (by decide) (str14 _ (oiadd Xr14 hx hby at_209 (oistore Xr14 hx hby at_210 (lc15 i0 i1 i2 i3 z1 z2 z3 1 1 1 u1 u2 u3 br4 3 3) rfl (oaload Xr14 hx hby at_212 rfl rfl (oaload Xr14 hx hby at_214 rfl rfl (str15 _ (oiload Xr15 hx hby at_219 rfl k)))))))))) ?_
            have f38 : Exa Z Tr8.heap u3 zs0 := (((((Exa.ext Er4 f5).keep Kr5).keep Kr6).keep Kr7).keep Kr8)
            have ne6 : u3 ≠ br4 := Nat.ne_of_lt (Nat.lt_of_lt_of_le (f6.lt) (Nat.le_of_eq gr4.symm))
            have ne7 : u3 ≠ b1 := Nat.ne_of_lt (Nat.lt_of_lt_of_le (Nat.lt_of_lt_of_le (f6.lt) Er4.1) sz1)
            have f39 : Fld Z Tr8.heap u3 zs26 "ordinal" "I" (.int z3) := (((((Fld.ext Er4 f6).keep Kr5 (ninS ne6 nin0)).keep Kr6 (ninS ne7 nin0)).keep Kr7 (ninS ne7 nin0)).keep Kr8 (ninS ne7 nin0))
            have hc23 : (i2 &&& (7 : Int32)) = (i0 &&& (7 : Int32)) := (Int32.toInt_inj.mp (by have := congrArg Int32.toInt hk36; have := congrArg Int32.toInt hk37; have := c_and i2 (7 : Int32) (by decide); have := (by decide : ((7 : Int32)).toInt = 7); have := c_and i0 (7 : Int32) (by decide); have := c_and i1 (7 : Int32) (by decide); omega))
            have hs24 : z3 = z1 := by rw [hz3, hz1]; exact hc23
            obtain ⟨_, Tr16, Lr16, Xr16, hQr16, str16⟩ := ocallV Xr15 hx hZ zm10 zm10 hown (ww hw 86 rfl) (ww hw 87 rfl) (notFace_of_selects (args := #[]) (mvT hZ (ww hw 89 rfl))) (ww hw 89 rfl) (ww hw 88 rfl) (by decide) (ww hw 90 rfl) (ww hw 13 rfl) er15 f34 (rm11_72 l Z a0 hw [] br4 u3 b1 z3 k1 z1 z2 Tr8.heap n0 Z_5 f35 f38 f39 f33 hs12 hs14 hs24) (st := [(.ref u3), (.ref br4)]) rfl 0 rfl (by decide) (pc := 228) (Ls := (lc15 i0 i1 i2 i3 z1 z2 z3 1 1 1 u1 u2 u3 br4 3 3)) hml rfl (lenOf pd_6 rfl) at_228 hby
            obtain ⟨rfl, Nr16q, er16⟩ := hQr16
            have N15 := Fr.app N14 Nr16q
            refine own_go (U' := Tr16.setTop (mkF m 233 (lc15 i0 i1 i2 i3 z1 z2 z3 1 1 1 u1 u2 u3 br4 3 3) [(.int 3), (.int 3)])) (fun t k => oicN Xr15 hx hby at_221 (by decide) (oaload Xr15 hx hby at_224 rfl rfl (oaload Xr15 hx hby at_226 rfl rfl (str16 _ (oiload Xr16 hx hby at_231 rfl k))))) ?_
            refine own_go (U' := Tr16.setTop (mkF m 241 (lc15 i0 i1 i2 i3 z1 z2 z3 1 1 1 u1 u2 u3 br4 3 3) [(.int 1)])) (fun t k => oicN Xr16 hx hby at_233 (by decide) (oiconst Xr16 hx hby at_236 (ogoto (pc := 237) Xr16 hx hby at_237 241 (by decide) k))) ?_
            obtain ⟨fs, hr, hrun, hended, hW, hsame⟩ := Xr16.leave (v := some (.int 1)) (fun h => by rw [Bd.returns] at h; cases h)
            refine own_out ⟨_, _, ?_, hrun, hended, _, _, rfl, ?_, ⟨_, rfl⟩, hW, hsame.mono (by decide) (by decide)⟩
            · exact retN Xr16 hx (t := .boolean) Bd.returns (by simp) (hb hby at_241) hr
            · exact ⟨rfl, N15⟩
          · obtain ⟨_, Tr12, Lr12, Xr12, hQr12, str12⟩ := ocallS Xr11 hx hZ zm9 hown (ww hw 83 rfl) (ww hw 84 rfl) (by decide) (ww hw 85 rfl) (ww hw 2 rfl) er11 (rm10_18 l Z a0 hw []  Tr8.heap n0 Z_5 ) (st := [(.int 0)]) rfl 0 rfl (by decide) (pc := 165) (Ls := (lc14 i0 i1 i2 i3 z1 z2 z3 1 1 1 u1 u2 u3 br4 3)) hml rfl (lenOf pd_5 rfl) at_165 hby
            obtain ⟨rfl, Nr12q, er12⟩ := hQr12
            have N11 := Fr.app N10 Nr12q
            have hc25 : ¬ ((i1 &&& (7 : Int32)) = (i2 &&& (7 : Int32))) := hk37
            have hs26 : ¬ (z2 = z3) := by rw [hz3, hz2]; exact hc25
            refine own_go (U' := Tr12.setTop (mkF m 172 (lc14 i0 i1 i2 i3 z1 z2 z3 1 1 1 u1 u2 u3 br4 3) [(.int z3), (.int z1), (.int 0)])) (fun t k => oicY (pc := 152) Xr11 hx hby at_152 164 (feq hs26).2 (by decide) (oiconst Xr11 hx hby at_164 (str12 _ (oiload Xr12 hx hby at_168 rfl (oiload Xr12 hx hby at_170 rfl k))))) ?_
            obtain ⟨_, Tr13, Lr13, Xr13, hQr13, str13⟩ := ocallS Xr12 hx hZ zm9 hown (ww hw 83 rfl) (ww hw 84 rfl) (by decide) (ww hw 85 rfl) (ww hw 2 rfl) er12 (rm10_18 l Z a0 hw []  Tr8.heap n0 Z_5 ) (st := [(.int 0), (.int 0)]) rfl 1 rfl (by decide) (pc := 185) (Ls := (lc14 i0 i1 i2 i3 z1 z2 z3 1 1 1 u1 u2 u3 br4 3)) hml rfl (lenOf pd_5 rfl) at_185 hby
            obtain ⟨rfl, Nr13q, er13⟩ := hQr13
            have N12 := Fr.app N11 Nr13q
            have hc27 : ¬ ((i0 &&& (7 : Int32)) = (i2 &&& (7 : Int32))) := (fun e => by have := congrArg Int32.toInt e; have := congrArg Int32.toInt hk36; have : ¬ ((i1 &&& (7 : Int32))).toInt = ((i2 &&& (7 : Int32))).toInt := fun e => hk37 (Int32.toInt_inj.mp e); have := c_and i0 (7 : Int32) (by decide); have := (by decide : ((7 : Int32)).toInt = 7); have := c_and i2 (7 : Int32) (by decide); have := c_and i1 (7 : Int32) (by decide); omega)
            have hs28 : ¬ (z1 = z3) := by rw [hz3, hz1]; exact hc27
            refine own_go (U' := Tr13.setTop (mkF m 193 (lc14 i0 i1 i2 i3 z1 z2 z3 1 1 1 u1 u2 u3 br4 3) [(.int z3), (.int z1), (.int 0)])) (fun t k => oicY (pc := 172) Xr12 hx hby at_172 184 (feq hs28).2 (by decide) (oiconst Xr12 hx hby at_184 (str13 _ (oiadd Xr13 hx hby at_188 (oiload Xr13 hx hby at_189 rfl (oiload Xr13 hx hby at_191 rfl k)))))) ?_
            obtain ⟨_, Tr14, Lr14, Xr14, hQr14, str14⟩ := ocallS Xr13 hx hZ zm9 hown (ww hw 83 rfl) (ww hw 84 rfl) (by decide) (ww hw 85 rfl) (ww hw 2 rfl) er13 (rm10_18 l Z a0 hw []  Tr8.heap n0 Z_5 ) (st := [(.int 0), (.int 0)]) rfl 1 rfl (by decide) (pc := 206) (Ls := (lc14 i0 i1 i2 i3 z1 z2 z3 1 1 1 u1 u2 u3 br4 3)) hml rfl (lenOf pd_5 rfl) at_206 hby
            obtain ⟨rfl, Nr14q, er14⟩ := hQr14
            have N13 := Fr.app N12 Nr14q
            have f34 : Exa Z Tr8.heap br4 zs22 := (f29.keep Kr8)
            have f35 : Fld Z Tr8.heap br4 zs22 "counts" "[I" (.ref b1) := (f30.keep Kr8 (ninS ne3 nin0))
            have f36 : Exa Z Tr8.heap u1 zs0 := (f31.keep Kr8)
            have f37 : Fld Z Tr8.heap u1 zs26 "ordinal" "I" (.int z1) := (f32.keep Kr8 (ninS ne5 nin0))
            obtain ⟨_, Tr15, Lr15, Xr15, hQr15, str15⟩ := ocallV Xr14 hx hZ zm10 zm10 hown (ww hw 86 rfl) (ww hw 87 rfl) (notFace_of_selects (args := #[]) (mvT hZ (ww hw 89 rfl))) (ww hw 89 rfl) (ww hw 88 rfl) (by decide) (ww hw 90 rfl) (ww hw 13 rfl) er14 f34 (rm11_71 l Z a0 hw [] br4 u1 b1 z1 k1 z2 Tr8.heap n0 Z_5 f35 f36 f37 f33 hs4 hs6) (st := [(.ref u1), (.ref br4)]) rfl 0 rfl (by decide) (pc := 216) (Ls := (lc15 i0 i1 i2 i3 z1 z2 z3 1 1 1 u1 u2 u3 br4 3 0)) hml rfl (lenOf pd_6 rfl) at_216 hby
            obtain ⟨rfl, Nr15q, er15⟩ := hQr15
            have N14 := Fr.app N13 Nr15q
            refine own_go (U' := Tr15.setTop (mkF m 221 (lc15 i0 i1 i2 i3 z1 z2 z3 1 1 1 u1 u2 u3 br4 3 0) [(.int 3), (.int 3)])) (fun t k => oicY (pc := 193) Xr13 hx hby at_193 205 (feq hs28).2 (by decide) (oiconst Xr13 hx hby at_205 (str14 _ (oiadd Xr14 hx hby at_209 (oistore Xr14 hx hby at_210 (lc15 i0 i1 i2 i3 z1 z2 z3 1 1 1 u1 u2 u3 br4 3 0) rfl (oaload Xr14 hx hby at_212 rfl rfl (oaload Xr14 hx hby at_214 rfl rfl (str15 _ (oiload Xr15 hx hby at_219 rfl k))))))))) ?_
            have f38 : Exa Z Tr8.heap u3 zs0 := (((((Exa.ext Er4 f5).keep Kr5).keep Kr6).keep Kr7).keep Kr8)
            have ne6 : u3 ≠ br4 := Nat.ne_of_lt (Nat.lt_of_lt_of_le (f6.lt) (Nat.le_of_eq gr4.symm))
            have ne7 : u3 ≠ b1 := Nat.ne_of_lt (Nat.lt_of_lt_of_le (Nat.lt_of_lt_of_le (f6.lt) Er4.1) sz1)
            have f39 : Fld Z Tr8.heap u3 zs26 "ordinal" "I" (.int z3) := (((((Fld.ext Er4 f6).keep Kr5 (ninS ne6 nin0)).keep Kr6 (ninS ne7 nin0)).keep Kr7 (ninS ne7 nin0)).keep Kr8 (ninS ne7 nin0))
            have hc29 : ¬ ((i2 &&& (7 : Int32)) = (i0 &&& (7 : Int32))) := (fun e => by have := congrArg Int32.toInt e; have := congrArg Int32.toInt hk36; have : ¬ ((i1 &&& (7 : Int32))).toInt = ((i2 &&& (7 : Int32))).toInt := fun e => hk37 (Int32.toInt_inj.mp e); have := c_and i2 (7 : Int32) (by decide); have := (by decide : ((7 : Int32)).toInt = 7); have := c_and i0 (7 : Int32) (by decide); have := c_and i1 (7 : Int32) (by decide); omega)
            have hs30 : ¬ (z3 = z1) := by rw [hz3, hz1]; exact hc29
            have hc31 : ¬ ((i2 &&& (7 : Int32)) = (i1 &&& (7 : Int32))) := (fun e => by have := congrArg Int32.toInt e; have : ¬ ((i1 &&& (7 : Int32))).toInt = ((i2 &&& (7 : Int32))).toInt := fun e => hk37 (Int32.toInt_inj.mp e); have := c_and i2 (7 : Int32) (by decide); have := (by decide : ((7 : Int32)).toInt = 7); have := c_and i1 (7 : Int32) (by decide); omega)
            have hs32 : ¬ (z3 = z2) := by rw [hz3, hz2]; exact hc31
            obtain ⟨_, Tr16, Lr16, Xr16, hQr16, str16⟩ := ocallV Xr15 hx hZ zm10 zm10 hown (ww hw 86 rfl) (ww hw 87 rfl) (notFace_of_selects (args := #[]) (mvT hZ (ww hw 89 rfl))) (ww hw 89 rfl) (ww hw 88 rfl) (by decide) (ww hw 90 rfl) (ww hw 13 rfl) er15 f34 (rm11_73 l Z a0 hw [] br4 u3 b1 z3 k1 z1 z2 Tr8.heap n0 Z_5 f35 f38 f39 f33 hs12 hs14 hs30 hs32) (st := [(.ref u3), (.ref br4)]) rfl 0 rfl (by decide) (pc := 228) (Ls := (lc15 i0 i1 i2 i3 z1 z2 z3 1 1 1 u1 u2 u3 br4 3 0)) hml rfl (lenOf pd_6 rfl) at_228 hby
            obtain ⟨rfl, Nr16q, er16⟩ := hQr16
            have N15 := Fr.app N14 Nr16q
            refine own_go (U' := Tr16.setTop (mkF m 233 (lc15 i0 i1 i2 i3 z1 z2 z3 1 1 1 u1 u2 u3 br4 3 0) [(.int 0), (.int 0)])) (fun t k => oicN Xr15 hx hby at_221 (by decide) (oaload Xr15 hx hby at_224 rfl rfl (oaload Xr15 hx hby at_226 rfl rfl (str16 _ (oiload Xr16 hx hby at_231 rfl k))))) ?_
            refine own_go (U' := Tr16.setTop (mkF m 241 (lc15 i0 i1 i2 i3 z1 z2 z3 1 1 1 u1 u2 u3 br4 3 0) [(.int 1)])) (fun t k => oicN Xr16 hx hby at_233 (by decide) (oiconst Xr16 hx hby at_236 (ogoto (pc := 237) Xr16 hx hby at_237 241 (by decide) k))) ?_
            obtain ⟨fs, hr, hrun, hended, hW, hsame⟩ := Xr16.leave (v := some (.int 1)) (fun h => by rw [Bd.returns] at h; cases h)
            refine own_out ⟨_, _, ?_, hrun, hended, _, _, rfl, ?_, ⟨_, rfl⟩, hW, hsame.mono (by decide) (by decide)⟩
            · exact retN Xr16 hx (t := .boolean) Bd.returns (by simp) (hb hby at_241) hr
            · exact ⟨rfl, N15⟩
        · have hc33 : ¬ ((i0 &&& (7 : Int32)) = (i1 &&& (7 : Int32))) := hk36
          have hs34 : ¬ (z1 = z2) := by rw [hz2, hz1]; exact hc33
          obtain ⟨_, Tr7, Lr7, Xr7, hQr7, str7⟩ := ocallV Xr6 hx hZ zm7 zm7 hown (ww hw 69 rfl) (ww hw 70 rfl) (notFace_of_selects (args := #[]) (mvT hZ (ww hw 72 rfl))) (ww hw 72 rfl) (ww hw 71 rfl) (by decide) (ww hw 73 rfl) (ww hw 13 rfl) rfl f24 (rm8_68 l Z a0 hw [] br4 u1 b1 z1 k1 z2 Tr6.heap n0 Z_3 f25 f26 f27 f23 hs4 hs6 hs34 g2) (st := [(.int 1), (.ref u1), (.ref br4)]) rfl 0 rfl (by decide) (pc := 102) (Ls := (lc12 i0 i1 i2 i3 z1 z2 z3 1 1 1 u1 u2 u3 br4)) hml rfl (lenOf pd_4 rfl) at_102 hby
          obtain ⟨rfl, Nr7q, Kr7, f28⟩ := hQr7
          have N6 := Fr.app N5 Nr7q
          have f29 : Exa Z Tr7.heap br4 zs22 := (f24.keep Kr7)
          have f30 : Fld Z Tr7.heap br4 zs22 "counts" "[I" (.ref b1) := (f25.keep Kr7 (ninS ne3 nin0))
          have f31 : Exa Z Tr7.heap u1 zs0 := (f26.keep Kr7)
          have f32 : Fld Z Tr7.heap u1 zs26 "ordinal" "I" (.int z1) := (f27.keep Kr7 (ninS ne5 nin0))
          have Z_4 : n0 ≤ Tr7.heap.size := Nat.le_trans Z_3 Kr7.1
          obtain ⟨_, Tr8, Lr8, Xr8, hQr8, str8⟩ := ocallV Xr7 hx hZ zm7 zm7 hown (ww hw 69 rfl) (ww hw 70 rfl) (notFace_of_selects (args := #[]) (mvT hZ (ww hw 72 rfl))) (ww hw 72 rfl) (ww hw 71 rfl) (by decide) (ww hw 73 rfl) (ww hw 13 rfl) rfl f29 (rm8_54 l Z a0 hw [] br4 u1 b1 z1 k1 z2 Tr7.heap n0 Z_4 f30 f31 f32 f28 hs4 hs6 g2) (st := [(.int 1), (.ref u1), (.ref br4)]) rfl 0 rfl (by decide) (pc := 111) (Ls := (lc12 i0 i1 i2 i3 z1 z2 z3 1 1 1 u1 u2 u3 br4)) hml rfl (lenOf pd_4 rfl) at_111 hby
          obtain ⟨rfl, Nr8q, Kr8, f33⟩ := hQr8
          have N7 := Fr.app N6 Nr8q
          refine own_go (U' := Tr8.setTop (mkF m 118 (lc12 i0 i1 i2 i3 z1 z2 z3 1 1 1 u1 u2 u3 br4) [(.int z1), (.int z2)])) (fun t k => oastore Xr3 hx hby at_76 (lc9 i0 i1 i2 i3 z1 z2 z3 1 1 1 u1 u2 u3) rfl rfl (str4 _ (odup Xr4 hx hby at_81 rfl (str5 _ (oastore Xr5 hx hby at_85 (lc12 i0 i1 i2 i3 z1 z2 z3 1 1 1 u1 u2 u3 br4) rfl rfl (oaload Xr5 hx hby at_87 rfl rfl (oaload Xr5 hx hby at_89 rfl rfl (oiload Xr5 hx hby at_91 rfl (str6 _ (oaload Xr6 hx hby at_96 rfl rfl (oaload Xr6 hx hby at_98 rfl rfl (oiload Xr6 hx hby at_100 rfl (str7 _ (oaload Xr7 hx hby at_105 rfl rfl (oaload Xr7 hx hby at_107 rfl rfl (oiload Xr7 hx hby at_109 rfl (str8 _ (oiload Xr8 hx hby at_114 rfl (oiload Xr8 hx hby at_116 rfl k))))))))))))))))))) ?_
          have Z_5 : n0 ≤ Tr8.heap.size := Nat.le_trans Z_4 Kr8.1
          obtain ⟨_, Tr9, Lr9, Xr9, hQr9, str9⟩ := ocallS Xr8 hx hZ zm9 hown (ww hw 83 rfl) (ww hw 84 rfl) (by decide) (ww hw 85 rfl) (ww hw 2 rfl) rfl (rm10_18 l Z a0 hw []  Tr8.heap n0 Z_5 ) (st := [(.int 0)]) rfl 0 rfl (by decide) (pc := 131) (Ls := (lc12 i0 i1 i2 i3 z1 z2 z3 1 1 1 u1 u2 u3 br4)) hml rfl (lenOf pd_5 rfl) at_131 hby
          obtain ⟨rfl, Nr9q, er9⟩ := hQr9
          have N8 := Fr.app N7 Nr9q
          obtain ⟨_, Tr10, Lr10, Xr10, hQr10, str10⟩ := ocallS Xr9 hx hZ zm9 hown (ww hw 83 rfl) (ww hw 84 rfl) (by decide) (ww hw 85 rfl) (ww hw 2 rfl) er9 (rm10_25 l Z a0 hw []  Tr8.heap n0 Z_5 ) (st := [(.int 1), (.int 0)]) rfl 1 rfl (by decide) (pc := 136) (Ls := (lc12 i0 i1 i2 i3 z1 z2 z3 1 1 1 u1 u2 u3 br4)) hml rfl (lenOf pd_5 rfl) at_136 hby
          obtain ⟨rfl, Nr10q, er10⟩ := hQr10
          have N9 := Fr.app N8 Nr10q
          obtain ⟨_, Tr11, Lr11, Xr11, hQr11, str11⟩ := ocallS Xr10 hx hZ zm9 hown (ww hw 83 rfl) (ww hw 84 rfl) (by decide) (ww hw 85 rfl) (ww hw 2 rfl) er10 (rm10_25 l Z a0 hw []  Tr8.heap n0 Z_5 ) (st := [(.int 1), (.int 1)]) rfl 1 rfl (by decide) (pc := 142) (Ls := (lc12 i0 i1 i2 i3 z1 z2 z3 1 1 1 u1 u2 u3 br4)) hml rfl (lenOf pd_5 rfl) at_142 hby
          obtain ⟨rfl, Nr11q, er11⟩ := hQr11
          have N10 := Fr.app N9 Nr11q
          have hc35 : ¬ ((i1 &&& (7 : Int32)) = (i0 &&& (7 : Int32))) := (fun e => by have := congrArg Int32.toInt e; have : ¬ ((i0 &&& (7 : Int32))).toInt = ((i1 &&& (7 : Int32))).toInt := fun e => hk36 (Int32.toInt_inj.mp e); have := c_and i1 (7 : Int32) (by decide); have := (by decide : ((7 : Int32)).toInt = 7); have := c_and i0 (7 : Int32) (by decide); omega)
          have hs36 : ¬ (z2 = z1) := by rw [hz2, hz1]; exact hc35
          refine own_go (U' := Tr11.setTop (mkF m 152 (lc14 i0 i1 i2 i3 z1 z2 z3 1 1 1 u1 u2 u3 br4 2) [(.int z3), (.int z2)])) (fun t k => oicY (pc := 118) Xr8 hx hby at_118 130 (feq hs36).2 (by decide) (oiconst Xr8 hx hby at_130 (str9 _ (oiload Xr9 hx hby at_134 rfl (str10 _ (oiadd Xr10 hx hby at_139 (oiload Xr10 hx hby at_140 rfl (str11 _ (oiadd Xr11 hx hby at_145 (oistore Xr11 hx hby at_146 (lc14 i0 i1 i2 i3 z1 z2 z3 1 1 1 u1 u2 u3 br4 2) rfl (oiload Xr11 hx hby at_148 rfl (oiload Xr11 hx hby at_150 rfl k)))))))))))) ?_
          by_cases hk38 : (i1 &&& (7 : Int32)) = (i2 &&& (7 : Int32))
          · have hc19 : (i1 &&& (7 : Int32)) = (i2 &&& (7 : Int32)) := hk38
            have hs20 : z2 = z3 := by rw [hz3, hz2]; exact hc19
            refine own_go (U' := Tr11.setTop (mkF m 157 (lc14 i0 i1 i2 i3 z1 z2 z3 1 1 1 u1 u2 u3 br4 2) [(.int 1)])) (fun t k => oicN Xr11 hx hby at_152 (teq hs20).2 (oiload Xr11 hx hby at_155 rfl k)) ?_
            obtain ⟨_, Tr12, Lr12, Xr12, hQr12, str12⟩ := ocallS Xr11 hx hZ zm9 hown (ww hw 83 rfl) (ww hw 84 rfl) (by decide) (ww hw 85 rfl) (ww hw 2 rfl) er11 (rm10_25 l Z a0 hw []  Tr8.heap n0 Z_5 ) (st := [(.int 1)]) rfl 0 rfl (by decide) (pc := 165) (Ls := (lc14 i0 i1 i2 i3 z1 z2 z3 1 1 1 u1 u2 u3 br4 2)) hml rfl (lenOf pd_5 rfl) at_165 hby
            obtain ⟨rfl, Nr12q, er12⟩ := hQr12
            have N11 := Fr.app N10 Nr12q
            refine own_go (U' := Tr12.setTop (mkF m 172 (lc14 i0 i1 i2 i3 z1 z2 z3 1 1 1 u1 u2 u3 br4 2) [(.int z3), (.int z1), (.int 1)])) (fun t k => oifN Xr11 hx hby at_157 (by decide) (oiconst Xr11 hx hby at_160 (ogoto (pc := 161) Xr11 hx hby at_161 165 (by decide) (str12 _ (oiload Xr12 hx hby at_168 rfl (oiload Xr12 hx hby at_170 rfl k)))))) ?_
            obtain ⟨_, Tr13, Lr13, Xr13, hQr13, str13⟩ := ocallS Xr12 hx hZ zm9 hown (ww hw 83 rfl) (ww hw 84 rfl) (by decide) (ww hw 85 rfl) (ww hw 2 rfl) er12 (rm10_18 l Z a0 hw []  Tr8.heap n0 Z_5 ) (st := [(.int 0), (.int 1)]) rfl 1 rfl (by decide) (pc := 185) (Ls := (lc14 i0 i1 i2 i3 z1 z2 z3 1 1 1 u1 u2 u3 br4 2)) hml rfl (lenOf pd_5 rfl) at_185 hby
            obtain ⟨rfl, Nr13q, er13⟩ := hQr13
            have N12 := Fr.app N11 Nr13q
            have hc27 : ¬ ((i0 &&& (7 : Int32)) = (i2 &&& (7 : Int32))) := (fun e => by have := congrArg Int32.toInt e; have : ¬ ((i0 &&& (7 : Int32))).toInt = ((i1 &&& (7 : Int32))).toInt := fun e => hk36 (Int32.toInt_inj.mp e); have := congrArg Int32.toInt hk38; have := c_and i0 (7 : Int32) (by decide); have := (by decide : ((7 : Int32)).toInt = 7); have := c_and i2 (7 : Int32) (by decide); have := c_and i1 (7 : Int32) (by decide); omega)
            have hs28 : ¬ (z1 = z3) := by rw [hz3, hz1]; exact hc27
            refine own_go (U' := Tr13.setTop (mkF m 193 (lc14 i0 i1 i2 i3 z1 z2 z3 1 1 1 u1 u2 u3 br4 2) [(.int z3), (.int z1), (.int 1)])) (fun t k => oicY (pc := 172) Xr12 hx hby at_172 184 (feq hs28).2 (by decide) (oiconst Xr12 hx hby at_184 (str13 _ (oiadd Xr13 hx hby at_188 (oiload Xr13 hx hby at_189 rfl (oiload Xr13 hx hby at_191 rfl k)))))) ?_
            obtain ⟨_, Tr14, Lr14, Xr14, hQr14, str14⟩ := ocallS Xr13 hx hZ zm9 hown (ww hw 83 rfl) (ww hw 84 rfl) (by decide) (ww hw 85 rfl) (ww hw 2 rfl) er13 (rm10_18 l Z a0 hw []  Tr8.heap n0 Z_5 ) (st := [(.int 0), (.int 1)]) rfl 1 rfl (by decide) (pc := 206) (Ls := (lc14 i0 i1 i2 i3 z1 z2 z3 1 1 1 u1 u2 u3 br4 2)) hml rfl (lenOf pd_5 rfl) at_206 hby
            obtain ⟨rfl, Nr14q, er14⟩ := hQr14
            have N13 := Fr.app N12 Nr14q
            have f34 : Exa Z Tr8.heap br4 zs22 := (f29.keep Kr8)
            have f35 : Fld Z Tr8.heap br4 zs22 "counts" "[I" (.ref b1) := (f30.keep Kr8 (ninS ne3 nin0))
            have f36 : Exa Z Tr8.heap u1 zs0 := (f31.keep Kr8)
            have f37 : Fld Z Tr8.heap u1 zs26 "ordinal" "I" (.int z1) := (f32.keep Kr8 (ninS ne5 nin0))
            obtain ⟨_, Tr15, Lr15, Xr15, hQr15, str15⟩ := ocallV Xr14 hx hZ zm10 zm10 hown (ww hw 86 rfl) (ww hw 87 rfl) (notFace_of_selects (args := #[]) (mvT hZ (ww hw 89 rfl))) (ww hw 89 rfl) (ww hw 88 rfl) (by decide) (ww hw 90 rfl) (ww hw 13 rfl) er14 f34 (rm11_55 l Z a0 hw [] br4 u1 b1 z1 k1 z2 Tr8.heap n0 Z_5 f35 f36 f37 f33 hs4 hs6) (st := [(.ref u1), (.ref br4)]) rfl 0 rfl (by decide) (pc := 216) (Ls := (lc15 i0 i1 i2 i3 z1 z2 z3 1 1 1 u1 u2 u3 br4 2 1)) hml rfl (lenOf pd_6 rfl) at_216 hby
            obtain ⟨rfl, Nr15q, er15⟩ := hQr15
            have N14 := Fr.app N13 Nr15q
            refine own_go (U' := Tr15.setTop (mkF m 221 (lc15 i0 i1 i2 i3 z1 z2 z3 1 1 1 u1 u2 u3 br4 2 1) [(.int 2), (.int 2)])) (fun t k => oicY (pc := 193) Xr13 hx hby at_193 205 (feq hs28).2 (by decide) (oiconst Xr13 hx hby at_205 (str14 _ (oiadd Xr14 hx hby at_209 (oistore Xr14 hx hby at_210 (lc15 i0 i1 i2 i3 z1 z2 z3 1 1 1 u1 u2 u3 br4 2 1) rfl (oaload Xr14 hx hby at_212 rfl rfl (oaload Xr14 hx hby at_214 rfl rfl (str15 _ (oiload Xr15 hx hby at_219 rfl k))))))))) ?_
            have f38 : Exa Z Tr8.heap u3 zs0 := (((((Exa.ext Er4 f5).keep Kr5).keep Kr6).keep Kr7).keep Kr8)
            have ne6 : u3 ≠ br4 := Nat.ne_of_lt (Nat.lt_of_lt_of_le (f6.lt) (Nat.le_of_eq gr4.symm))
            have ne7 : u3 ≠ b1 := Nat.ne_of_lt (Nat.lt_of_lt_of_le (Nat.lt_of_lt_of_le (f6.lt) Er4.1) sz1)
            have f39 : Fld Z Tr8.heap u3 zs26 "ordinal" "I" (.int z3) := (((((Fld.ext Er4 f6).keep Kr5 (ninS ne6 nin0)).keep Kr6 (ninS ne7 nin0)).keep Kr7 (ninS ne7 nin0)).keep Kr8 (ninS ne7 nin0))
            have hc29 : ¬ ((i2 &&& (7 : Int32)) = (i0 &&& (7 : Int32))) := (fun e => by have := congrArg Int32.toInt e; have : ¬ ((i0 &&& (7 : Int32))).toInt = ((i1 &&& (7 : Int32))).toInt := fun e => hk36 (Int32.toInt_inj.mp e); have := congrArg Int32.toInt hk38; have := c_and i2 (7 : Int32) (by decide); have := (by decide : ((7 : Int32)).toInt = 7); have := c_and i0 (7 : Int32) (by decide); have := c_and i1 (7 : Int32) (by decide); omega)
            have hs30 : ¬ (z3 = z1) := by rw [hz3, hz1]; exact hc29
            have hc37 : (i2 &&& (7 : Int32)) = (i1 &&& (7 : Int32)) := (Int32.toInt_inj.mp (by have := congrArg Int32.toInt hk38; have := c_and i2 (7 : Int32) (by decide); have := (by decide : ((7 : Int32)).toInt = 7); have := c_and i1 (7 : Int32) (by decide); omega))
            have hs38 : z3 = z2 := by rw [hz3, hz2]; exact hc37
            obtain ⟨_, Tr16, Lr16, Xr16, hQr16, str16⟩ := ocallV Xr15 hx hZ zm10 zm10 hown (ww hw 86 rfl) (ww hw 87 rfl) (notFace_of_selects (args := #[]) (mvT hZ (ww hw 89 rfl))) (ww hw 89 rfl) (ww hw 88 rfl) (by decide) (ww hw 90 rfl) (ww hw 13 rfl) er15 f34 (rm11_74 l Z a0 hw [] br4 u3 b1 z3 k1 z1 z2 Tr8.heap n0 Z_5 f35 f38 f39 f33 hs12 hs14 hs30 hs38) (st := [(.ref u3), (.ref br4)]) rfl 0 rfl (by decide) (pc := 228) (Ls := (lc15 i0 i1 i2 i3 z1 z2 z3 1 1 1 u1 u2 u3 br4 2 1)) hml rfl (lenOf pd_6 rfl) at_228 hby
            obtain ⟨rfl, Nr16q, er16⟩ := hQr16
            have N15 := Fr.app N14 Nr16q
            refine own_go (U' := Tr16.setTop (mkF m 233 (lc15 i0 i1 i2 i3 z1 z2 z3 1 1 1 u1 u2 u3 br4 2 1) [(.int 1), (.int 1)])) (fun t k => oicN Xr15 hx hby at_221 (by decide) (oaload Xr15 hx hby at_224 rfl rfl (oaload Xr15 hx hby at_226 rfl rfl (str16 _ (oiload Xr16 hx hby at_231 rfl k))))) ?_
            refine own_go (U' := Tr16.setTop (mkF m 241 (lc15 i0 i1 i2 i3 z1 z2 z3 1 1 1 u1 u2 u3 br4 2 1) [(.int 1)])) (fun t k => oicN Xr16 hx hby at_233 (by decide) (oiconst Xr16 hx hby at_236 (ogoto (pc := 237) Xr16 hx hby at_237 241 (by decide) k))) ?_
            obtain ⟨fs, hr, hrun, hended, hW, hsame⟩ := Xr16.leave (v := some (.int 1)) (fun h => by rw [Bd.returns] at h; cases h)
            refine own_out ⟨_, _, ?_, hrun, hended, _, _, rfl, ?_, ⟨_, rfl⟩, hW, hsame.mono (by decide) (by decide)⟩
            · exact retN Xr16 hx (t := .boolean) Bd.returns (by simp) (hb hby at_241) hr
            · exact ⟨rfl, N15⟩
          · obtain ⟨_, Tr12, Lr12, Xr12, hQr12, str12⟩ := ocallS Xr11 hx hZ zm9 hown (ww hw 83 rfl) (ww hw 84 rfl) (by decide) (ww hw 85 rfl) (ww hw 2 rfl) er11 (rm10_18 l Z a0 hw []  Tr8.heap n0 Z_5 ) (st := [(.int 0)]) rfl 0 rfl (by decide) (pc := 165) (Ls := (lc14 i0 i1 i2 i3 z1 z2 z3 1 1 1 u1 u2 u3 br4 2)) hml rfl (lenOf pd_5 rfl) at_165 hby
            obtain ⟨rfl, Nr12q, er12⟩ := hQr12
            have N11 := Fr.app N10 Nr12q
            have hc25 : ¬ ((i1 &&& (7 : Int32)) = (i2 &&& (7 : Int32))) := hk38
            have hs26 : ¬ (z2 = z3) := by rw [hz3, hz2]; exact hc25
            refine own_go (U' := Tr12.setTop (mkF m 172 (lc14 i0 i1 i2 i3 z1 z2 z3 1 1 1 u1 u2 u3 br4 2) [(.int z3), (.int z1), (.int 0)])) (fun t k => oicY (pc := 152) Xr11 hx hby at_152 164 (feq hs26).2 (by decide) (oiconst Xr11 hx hby at_164 (str12 _ (oiload Xr12 hx hby at_168 rfl (oiload Xr12 hx hby at_170 rfl k))))) ?_
            by_cases hk39 : (i0 &&& (7 : Int32)) = (i2 &&& (7 : Int32))
            · have hc21 : (i0 &&& (7 : Int32)) = (i2 &&& (7 : Int32)) := hk39
              have hs22 : z1 = z3 := by rw [hz3, hz1]; exact hc21
              refine own_go (U' := Tr12.setTop (mkF m 177 (lc14 i0 i1 i2 i3 z1 z2 z3 1 1 1 u1 u2 u3 br4 2) [(.int 1), (.int 0)])) (fun t k => oicN Xr12 hx hby at_172 (teq hs22).2 (oiload Xr12 hx hby at_175 rfl k)) ?_
              obtain ⟨_, Tr13, Lr13, Xr13, hQr13, str13⟩ := ocallS Xr12 hx hZ zm9 hown (ww hw 83 rfl) (ww hw 84 rfl) (by decide) (ww hw 85 rfl) (ww hw 2 rfl) er12 (rm10_25 l Z a0 hw []  Tr8.heap n0 Z_5 ) (st := [(.int 1), (.int 0)]) rfl 1 rfl (by decide) (pc := 185) (Ls := (lc14 i0 i1 i2 i3 z1 z2 z3 1 1 1 u1 u2 u3 br4 2)) hml rfl (lenOf pd_5 rfl) at_185 hby
              obtain ⟨rfl, Nr13q, er13⟩ := hQr13
              have N12 := Fr.app N11 Nr13q
              refine own_go (U' := Tr13.setTop (mkF m 193 (lc14 i0 i1 i2 i3 z1 z2 z3 1 1 1 u1 u2 u3 br4 2) [(.int z3), (.int z1), (.int 1)])) (fun t k => oifN Xr12 hx hby at_177 (by decide) (oiconst Xr12 hx hby at_180 (ogoto (pc := 181) Xr12 hx hby at_181 185 (by decide) (str13 _ (oiadd Xr13 hx hby at_188 (oiload Xr13 hx hby at_189 rfl (oiload Xr13 hx hby at_191 rfl k))))))) ?_
              refine own_go (U' := Tr13.setTop (mkF m 198 (lc14 i0 i1 i2 i3 z1 z2 z3 1 1 1 u1 u2 u3 br4 2) [(.int 1), (.int 1)])) (fun t k => oicN Xr13 hx hby at_193 (teq hs22).2 (oiload Xr13 hx hby at_196 rfl k)) ?_
              obtain ⟨_, Tr14, Lr14, Xr14, hQr14, str14⟩ := ocallS Xr13 hx hZ zm9 hown (ww hw 83 rfl) (ww hw 84 rfl) (by decide) (ww hw 85 rfl) (ww hw 2 rfl) er13 (rm10_25 l Z a0 hw []  Tr8.heap n0 Z_5 ) (st := [(.int 1), (.int 1)]) rfl 1 rfl (by decide) (pc := 206) (Ls := (lc14 i0 i1 i2 i3 z1 z2 z3 1 1 1 u1 u2 u3 br4 2)) hml rfl (lenOf pd_5 rfl) at_206 hby
              obtain ⟨rfl, Nr14q, er14⟩ := hQr14
              have N13 := Fr.app N12 Nr14q
              have f34 : Exa Z Tr8.heap br4 zs22 := (f29.keep Kr8)
              have f35 : Fld Z Tr8.heap br4 zs22 "counts" "[I" (.ref b1) := (f30.keep Kr8 (ninS ne3 nin0))
              have f36 : Exa Z Tr8.heap u1 zs0 := (f31.keep Kr8)
              have f37 : Fld Z Tr8.heap u1 zs26 "ordinal" "I" (.int z1) := (f32.keep Kr8 (ninS ne5 nin0))
              obtain ⟨_, Tr15, Lr15, Xr15, hQr15, str15⟩ := ocallV Xr14 hx hZ zm10 zm10 hown (ww hw 86 rfl) (ww hw 87 rfl) (notFace_of_selects (args := #[]) (mvT hZ (ww hw 89 rfl))) (ww hw 89 rfl) (ww hw 88 rfl) (by decide) (ww hw 90 rfl) (ww hw 13 rfl) er14 f34 (rm11_55 l Z a0 hw [] br4 u1 b1 z1 k1 z2 Tr8.heap n0 Z_5 f35 f36 f37 f33 hs4 hs6) (st := [(.ref u1), (.ref br4)]) rfl 0 rfl (by decide) (pc := 216) (Ls := (lc15 i0 i1 i2 i3 z1 z2 z3 1 1 1 u1 u2 u3 br4 2 2)) hml rfl (lenOf pd_6 rfl) at_216 hby
              obtain ⟨rfl, Nr15q, er15⟩ := hQr15
              have N14 := Fr.app N13 Nr15q
              refine own_go (U' := Tr15.setTop (mkF m 221 (lc15 i0 i1 i2 i3 z1 z2 z3 1 1 1 u1 u2 u3 br4 2 2) [(.int 2), (.int 2)])) (fun t k => oifN Xr13 hx hby at_198 (by decide) (oiconst Xr13 hx hby at_201 (ogoto (pc := 202) Xr13 hx hby at_202 206 (by decide) (str14 _ (oiadd Xr14 hx hby at_209 (oistore Xr14 hx hby at_210 (lc15 i0 i1 i2 i3 z1 z2 z3 1 1 1 u1 u2 u3 br4 2 2) rfl (oaload Xr14 hx hby at_212 rfl rfl (oaload Xr14 hx hby at_214 rfl rfl (str15 _ (oiload Xr15 hx hby at_219 rfl k)))))))))) ?_
              have f38 : Exa Z Tr8.heap u3 zs0 := (((((Exa.ext Er4 f5).keep Kr5).keep Kr6).keep Kr7).keep Kr8)
              have ne6 : u3 ≠ br4 := Nat.ne_of_lt (Nat.lt_of_lt_of_le (f6.lt) (Nat.le_of_eq gr4.symm))
              have ne7 : u3 ≠ b1 := Nat.ne_of_lt (Nat.lt_of_lt_of_le (Nat.lt_of_lt_of_le (f6.lt) Er4.1) sz1)
              have f39 : Fld Z Tr8.heap u3 zs26 "ordinal" "I" (.int z3) := (((((Fld.ext Er4 f6).keep Kr5 (ninS ne6 nin0)).keep Kr6 (ninS ne7 nin0)).keep Kr7 (ninS ne7 nin0)).keep Kr8 (ninS ne7 nin0))
              have hc23 : (i2 &&& (7 : Int32)) = (i0 &&& (7 : Int32)) := (Int32.toInt_inj.mp (by have := congrArg Int32.toInt hk39; have := c_and i2 (7 : Int32) (by decide); have := (by decide : ((7 : Int32)).toInt = 7); have := c_and i0 (7 : Int32) (by decide); omega))
              have hs24 : z3 = z1 := by rw [hz3, hz1]; exact hc23
              obtain ⟨_, Tr16, Lr16, Xr16, hQr16, str16⟩ := ocallV Xr15 hx hZ zm10 zm10 hown (ww hw 86 rfl) (ww hw 87 rfl) (notFace_of_selects (args := #[]) (mvT hZ (ww hw 89 rfl))) (ww hw 89 rfl) (ww hw 88 rfl) (by decide) (ww hw 90 rfl) (ww hw 13 rfl) er15 f34 (rm11_56 l Z a0 hw [] br4 u3 b1 z3 k1 z1 z2 Tr8.heap n0 Z_5 f35 f38 f39 f33 hs12 hs14 hs24) (st := [(.ref u3), (.ref br4)]) rfl 0 rfl (by decide) (pc := 228) (Ls := (lc15 i0 i1 i2 i3 z1 z2 z3 1 1 1 u1 u2 u3 br4 2 2)) hml rfl (lenOf pd_6 rfl) at_228 hby
              obtain ⟨rfl, Nr16q, er16⟩ := hQr16
              have N15 := Fr.app N14 Nr16q
              refine own_go (U' := Tr16.setTop (mkF m 233 (lc15 i0 i1 i2 i3 z1 z2 z3 1 1 1 u1 u2 u3 br4 2 2) [(.int 2), (.int 2)])) (fun t k => oicN Xr15 hx hby at_221 (by decide) (oaload Xr15 hx hby at_224 rfl rfl (oaload Xr15 hx hby at_226 rfl rfl (str16 _ (oiload Xr16 hx hby at_231 rfl k))))) ?_
              refine own_go (U' := Tr16.setTop (mkF m 241 (lc15 i0 i1 i2 i3 z1 z2 z3 1 1 1 u1 u2 u3 br4 2 2) [(.int 1)])) (fun t k => oicN Xr16 hx hby at_233 (by decide) (oiconst Xr16 hx hby at_236 (ogoto (pc := 237) Xr16 hx hby at_237 241 (by decide) k))) ?_
              obtain ⟨fs, hr, hrun, hended, hW, hsame⟩ := Xr16.leave (v := some (.int 1)) (fun h => by rw [Bd.returns] at h; cases h)
              refine own_out ⟨_, _, ?_, hrun, hended, _, _, rfl, ?_, ⟨_, rfl⟩, hW, hsame.mono (by decide) (by decide)⟩
              · exact retN Xr16 hx (t := .boolean) Bd.returns (by simp) (hb hby at_241) hr
              · exact ⟨rfl, N15⟩
            · obtain ⟨_, Tr13, Lr13, Xr13, hQr13, str13⟩ := ocallS Xr12 hx hZ zm9 hown (ww hw 83 rfl) (ww hw 84 rfl) (by decide) (ww hw 85 rfl) (ww hw 2 rfl) er12 (rm10_18 l Z a0 hw []  Tr8.heap n0 Z_5 ) (st := [(.int 0), (.int 0)]) rfl 1 rfl (by decide) (pc := 185) (Ls := (lc14 i0 i1 i2 i3 z1 z2 z3 1 1 1 u1 u2 u3 br4 2)) hml rfl (lenOf pd_5 rfl) at_185 hby
              obtain ⟨rfl, Nr13q, er13⟩ := hQr13
              have N12 := Fr.app N11 Nr13q
              have hc27 : ¬ ((i0 &&& (7 : Int32)) = (i2 &&& (7 : Int32))) := hk39
              have hs28 : ¬ (z1 = z3) := by rw [hz3, hz1]; exact hc27
              refine own_go (U' := Tr13.setTop (mkF m 193 (lc14 i0 i1 i2 i3 z1 z2 z3 1 1 1 u1 u2 u3 br4 2) [(.int z3), (.int z1), (.int 0)])) (fun t k => oicY (pc := 172) Xr12 hx hby at_172 184 (feq hs28).2 (by decide) (oiconst Xr12 hx hby at_184 (str13 _ (oiadd Xr13 hx hby at_188 (oiload Xr13 hx hby at_189 rfl (oiload Xr13 hx hby at_191 rfl k)))))) ?_
              obtain ⟨_, Tr14, Lr14, Xr14, hQr14, str14⟩ := ocallS Xr13 hx hZ zm9 hown (ww hw 83 rfl) (ww hw 84 rfl) (by decide) (ww hw 85 rfl) (ww hw 2 rfl) er13 (rm10_18 l Z a0 hw []  Tr8.heap n0 Z_5 ) (st := [(.int 0), (.int 0)]) rfl 1 rfl (by decide) (pc := 206) (Ls := (lc14 i0 i1 i2 i3 z1 z2 z3 1 1 1 u1 u2 u3 br4 2)) hml rfl (lenOf pd_5 rfl) at_206 hby
              obtain ⟨rfl, Nr14q, er14⟩ := hQr14
              have N13 := Fr.app N12 Nr14q
              have f34 : Exa Z Tr8.heap br4 zs22 := (f29.keep Kr8)
              have f35 : Fld Z Tr8.heap br4 zs22 "counts" "[I" (.ref b1) := (f30.keep Kr8 (ninS ne3 nin0))
              have f36 : Exa Z Tr8.heap u1 zs0 := (f31.keep Kr8)
              have f37 : Fld Z Tr8.heap u1 zs26 "ordinal" "I" (.int z1) := (f32.keep Kr8 (ninS ne5 nin0))
              obtain ⟨_, Tr15, Lr15, Xr15, hQr15, str15⟩ := ocallV Xr14 hx hZ zm10 zm10 hown (ww hw 86 rfl) (ww hw 87 rfl) (notFace_of_selects (args := #[]) (mvT hZ (ww hw 89 rfl))) (ww hw 89 rfl) (ww hw 88 rfl) (by decide) (ww hw 90 rfl) (ww hw 13 rfl) er14 f34 (rm11_55 l Z a0 hw [] br4 u1 b1 z1 k1 z2 Tr8.heap n0 Z_5 f35 f36 f37 f33 hs4 hs6) (st := [(.ref u1), (.ref br4)]) rfl 0 rfl (by decide) (pc := 216) (Ls := (lc15 i0 i1 i2 i3 z1 z2 z3 1 1 1 u1 u2 u3 br4 2 0)) hml rfl (lenOf pd_6 rfl) at_216 hby
              obtain ⟨rfl, Nr15q, er15⟩ := hQr15
              have N14 := Fr.app N13 Nr15q
              refine own_go (U' := Tr15.setTop (mkF m 221 (lc15 i0 i1 i2 i3 z1 z2 z3 1 1 1 u1 u2 u3 br4 2 0) [(.int 2), (.int 2)])) (fun t k => oicY (pc := 193) Xr13 hx hby at_193 205 (feq hs28).2 (by decide) (oiconst Xr13 hx hby at_205 (str14 _ (oiadd Xr14 hx hby at_209 (oistore Xr14 hx hby at_210 (lc15 i0 i1 i2 i3 z1 z2 z3 1 1 1 u1 u2 u3 br4 2 0) rfl (oaload Xr14 hx hby at_212 rfl rfl (oaload Xr14 hx hby at_214 rfl rfl (str15 _ (oiload Xr15 hx hby at_219 rfl k))))))))) ?_
              have f38 : Exa Z Tr8.heap u3 zs0 := (((((Exa.ext Er4 f5).keep Kr5).keep Kr6).keep Kr7).keep Kr8)
              have ne6 : u3 ≠ br4 := Nat.ne_of_lt (Nat.lt_of_lt_of_le (f6.lt) (Nat.le_of_eq gr4.symm))
              have ne7 : u3 ≠ b1 := Nat.ne_of_lt (Nat.lt_of_lt_of_le (Nat.lt_of_lt_of_le (f6.lt) Er4.1) sz1)
              have f39 : Fld Z Tr8.heap u3 zs26 "ordinal" "I" (.int z3) := (((((Fld.ext Er4 f6).keep Kr5 (ninS ne6 nin0)).keep Kr6 (ninS ne7 nin0)).keep Kr7 (ninS ne7 nin0)).keep Kr8 (ninS ne7 nin0))
              have hc29 : ¬ ((i2 &&& (7 : Int32)) = (i0 &&& (7 : Int32))) := (fun e => by have := congrArg Int32.toInt e; have : ¬ ((i0 &&& (7 : Int32))).toInt = ((i2 &&& (7 : Int32))).toInt := fun e => hk39 (Int32.toInt_inj.mp e); have := c_and i2 (7 : Int32) (by decide); have := (by decide : ((7 : Int32)).toInt = 7); have := c_and i0 (7 : Int32) (by decide); omega)
              have hs30 : ¬ (z3 = z1) := by rw [hz3, hz1]; exact hc29
              have hc31 : ¬ ((i2 &&& (7 : Int32)) = (i1 &&& (7 : Int32))) := (fun e => by have := congrArg Int32.toInt e; have : ¬ ((i1 &&& (7 : Int32))).toInt = ((i2 &&& (7 : Int32))).toInt := fun e => hk38 (Int32.toInt_inj.mp e); have := c_and i2 (7 : Int32) (by decide); have := (by decide : ((7 : Int32)).toInt = 7); have := c_and i1 (7 : Int32) (by decide); omega)
              have hs32 : ¬ (z3 = z2) := by rw [hz3, hz2]; exact hc31
              obtain ⟨_, Tr16, Lr16, Xr16, hQr16, str16⟩ := ocallV Xr15 hx hZ zm10 zm10 hown (ww hw 86 rfl) (ww hw 87 rfl) (notFace_of_selects (args := #[]) (mvT hZ (ww hw 89 rfl))) (ww hw 89 rfl) (ww hw 88 rfl) (by decide) (ww hw 90 rfl) (ww hw 13 rfl) er15 f34 (rm11_57 l Z a0 hw [] br4 u3 b1 z3 k1 z1 z2 Tr8.heap n0 Z_5 f35 f38 f39 f33 hs12 hs14 hs30 hs32) (st := [(.ref u3), (.ref br4)]) rfl 0 rfl (by decide) (pc := 228) (Ls := (lc15 i0 i1 i2 i3 z1 z2 z3 1 1 1 u1 u2 u3 br4 2 0)) hml rfl (lenOf pd_6 rfl) at_228 hby
              obtain ⟨rfl, Nr16q, er16⟩ := hQr16
              have N15 := Fr.app N14 Nr16q
              refine own_go (U' := Tr16.setTop (mkF m 233 (lc15 i0 i1 i2 i3 z1 z2 z3 1 1 1 u1 u2 u3 br4 2 0) [(.int 0), (.int 0)])) (fun t k => oicN Xr15 hx hby at_221 (by decide) (oaload Xr15 hx hby at_224 rfl rfl (oaload Xr15 hx hby at_226 rfl rfl (str16 _ (oiload Xr16 hx hby at_231 rfl k))))) ?_
              refine own_go (U' := Tr16.setTop (mkF m 241 (lc15 i0 i1 i2 i3 z1 z2 z3 1 1 1 u1 u2 u3 br4 2 0) [(.int 1)])) (fun t k => oicN Xr16 hx hby at_233 (by decide) (oiconst Xr16 hx hby at_236 (ogoto (pc := 237) Xr16 hx hby at_237 241 (by decide) k))) ?_
              obtain ⟨fs, hr, hrun, hended, hW, hsame⟩ := Xr16.leave (v := some (.int 1)) (fun h => by rw [Bd.returns] at h; cases h)
              refine own_out ⟨_, _, ?_, hrun, hended, _, _, rfl, ?_, ⟨_, rfl⟩, hW, hsame.mono (by decide) (by decide)⟩
              · exact retN Xr16 hx (t := .boolean) Bd.returns (by simp) (hb hby at_241) hr
              · exact ⟨rfl, N15⟩
set_option maxRecDepth 65536 in
set_option maxHeartbeats 40000000 in
theorem comes_1 {Post : Tables → Env → Array Value → State → Outcome → State → Prop} (hpost : ∀ tb e args s v u, (limb_1_1.after args s (.returned v) u = true ∧ limb_1_2.after args s (.returned v) u = true ∧ True) → FrameEnd s (.returned v) u (Jvm.fieldLocs frame_1_writes args s ++ Jvm.arrayLocs frame_1_arrays args s ++ Jvm.staticLocs frame_1_statics s) 16 128 → Post tb e args s (.returned v) u) :
    ArmFor flags0 classFile x code maxLocals ret World_1 tables_1 room_1 Calls_1 rest_1 Pre_1 Post := by
  intro l hfl _ _ p e ha hc hk s m args below hf hA hF happ hP
  obtain ⟨hcalls, hrest, hpre⟩ := hP
  obtain ⟨-, -, -, hnamed, -, -, -, hat⟩ := (Spec.applies_iff hf).mp happ
  obtain ⟨hg, hn⟩ := and_e (Cond.before_iff.mp (show (Jvm.Cond.and given_1 narrow_1).before args s = true from hpre))
  obtain ⟨g40, g41⟩ := and_e hg
  obtain ⟨g42, g43⟩ := and_e g41
  obtain ⟨g44, g45⟩ := and_e g43
  obtain ⟨g46, g47⟩ := and_e g45
  obtain ⟨v0, v1, v2, v3, rfl⟩ : ∃ v0 v1 v2 v3 : Value, args = #[v0, v1, v2, v3] := by
    have hs : args.size = 4 := by simpa [Cond.value, given_1] using g40
    obtain ⟨L⟩ := args
    match L, hs with
    | [v0, v1, v2, v3], _ => exact ⟨v0, v1, v2, v3, rfl⟩
  have hw := fun d (hd : d ∈ tables_1) => atoms_spec (ws := Jvm.Cond.code x code maxLocals ret :: tables_1) hat d (List.mem_cons_of_mem _ hd)
  obtain ⟨i0, ei0⟩ := is_v g42
  obtain rfl : v0 = (.int i0) := Option.some.inj ei0
  obtain ⟨i1, ei1⟩ := is_v g44
  obtain rfl : v1 = (.int i1) := Option.some.inj ei1
  obtain ⟨i2, ei2⟩ := is_v g46
  obtain rfl : v2 = (.int i2) := Option.some.inj ei2
  obtain ⟨i3, ei3⟩ := is_v g47
  obtain rfl : v3 = (.int i3) := Option.some.inj ei3
  have hfit : Fit s := fun {y c} hc i hi => by
    obtain ⟨ha, rfl⟩ := Array.getElem?_eq_some_iff.mp hc
    have q := List.all_eq_true.mp ((Array.all_eq_true_iff_forall_mem.mp hF) _ (Array.getElem_mem ha)) i (List.mem_range.mpr hi)
    simpa [Array.getElem?_eq_getElem hi] using q
  obtain ⟨hsets, hown0⟩ := atoms_of _ (rest_1_c_eq ▸ (show rest_1_c.before _ s = true from hrest))
  obtain ⟨g48, g49⟩ := and_e hn
  have c0 := g48
  obtain ⟨g50, g51⟩ := and_e g49
  have c1 := g50
  obtain ⟨g52, g53⟩ := and_e g51
  have c2 := g52
  obtain ⟨g54, g55⟩ := and_e g53
  have c3 := g54
  obtain ⟨g56, g57⟩ := and_e g55
  have c4 := g56
  obtain ⟨g58, g59⟩ := and_e g57
  have c5 := g58
  obtain ⟨g60, g61⟩ := and_e g59
  have c6 := g60
  obtain ⟨g62, g63⟩ := and_e g61
  have c7 := g62
  obtain ⟨g64, g65⟩ := and_e g63
  have c8 := g64
  obtain ⟨g66, g67⟩ := and_e g65
  have c9 := g66
  obtain ⟨g68, g69⟩ := and_e g67
  have c10 := g68
  obtain ⟨g70, g71⟩ := and_e g69
  have c11 := g70
  obtain ⟨g72, g73⟩ := and_e g71
  have c12 := g72
  obtain ⟨g74, g75⟩ := and_e g73
  have c13 := g74
  obtain ⟨g76, g77⟩ := and_e g75
  have c14 := g76
  obtain ⟨g78, g79⟩ := and_e g77
  have c15 := g78
  obtain ⟨g80, g81⟩ := and_e g79
  have c16 := g80
  obtain ⟨g82, g83⟩ := and_e g81
  have c17 := g82
  obtain ⟨g84, g85⟩ := and_e g83
  have c18 := g84
  obtain ⟨g86, g87⟩ := and_e g85
  have c19 := g86
  obtain ⟨g88, g89⟩ := and_e g87
  have c20 := g88
  obtain ⟨g90, g91⟩ := and_e g89
  have c21 := g90
  obtain ⟨g92, g93⟩ := and_e g91
  have c22 := g92
  obtain ⟨g94, g95⟩ := and_e g93
  have c23 := g94
  obtain ⟨g96, g97⟩ := and_e g95
  have c24 := g96
  obtain ⟨g98, g99⟩ := and_e g97
  have c25 := g98
  have c26 := g99
  obtain ⟨w0, ew0⟩ := exa_v c0
  have S0 := Sta.start ew0 (Or.inr ⟨(ww hw 5 rfl), (ww hw 6 rfl)⟩)
  have S1 := Exa.start ew0 c0
  obtain ⟨w1, ew1⟩ := exa_v c1
  have S2 := Sta.start ew1 (Or.inr ⟨(ww hw 5 rfl), (ww hw 8 rfl)⟩)
  have S3 := Exa.start ew1 c1
  obtain ⟨w2, ew2⟩ := exa_v c2
  have S4 := Sta.start ew2 (Or.inr ⟨(ww hw 5 rfl), (ww hw 10 rfl)⟩)
  have S5 := Exa.start ew2 c2
  obtain ⟨w3, ew3⟩ := exa_v c4
  have S6 := Sta.start ew3 (Or.inl (ww hw 37 rfl))
  have S7 := Exa.start ew3 c4
  obtain ⟨w4, ew4⟩ := exa_v c7
  have S8 := Sta.start ew4 (Or.inr ⟨(ww hw 5 rfl), (ww hw 32 rfl)⟩)
  have S9 := Exa.start ew4 c7
  obtain ⟨w5, ew5⟩ := exa_v c11
  have S10 := Sta.start ew5 (Or.inr ⟨(ww hw 5 rfl), (ww hw 33 rfl)⟩)
  have S11 := Exa.start ew5 c11
  obtain ⟨w6, ew6⟩ := exa_v c13
  have S12 := Sta.start ew6 (Or.inr ⟨(ww hw 5 rfl), (ww hw 34 rfl)⟩)
  have S13 := Exa.start ew6 c13
  obtain ⟨w7, ew7⟩ := exa_v c15
  have S14 := Sta.start ew7 (Or.inr ⟨(ww hw 5 rfl), (ww hw 35 rfl)⟩)
  have S15 := Exa.start ew7 c15
  obtain ⟨w8, ew8⟩ := exa_v c17
  have S16 := Sta.start ew8 (Or.inr ⟨(ww hw 5 rfl), (ww hw 36 rfl)⟩)
  have S17 := Exa.start ew8 c17
  have S18 := own_fldI ew1 c19
  have S19 := own_fldI ew0 c20
  have S20 := own_fldI ew2 c21
  have S21 := own_fldI ew5 c22
  have S22 := own_fldI ew8 c23
  have S23 := own_fldI ew7 c24
  have S24 := own_fldI ew4 c25
  have S25 := own_fldI ew6 c26
  obtain ⟨w9, ew9⟩ := exa_v (Cond.before_iff.mp (hsets _ (List.mem_of_getElem? (i := 4) rfl)))
  have S26 := Sta.start ew9 (Or.inl (hsets _ (List.mem_of_getElem? (i := 1) rfl)))
  have S27 := Exa.start ew9 (Cond.before_iff.mp (hsets _ (List.mem_of_getElem? (i := 4) rfl)))
  obtain ⟨w10, ew10⟩ := exa_v (Cond.before_iff.mp (hsets _ (List.mem_of_getElem? (i := 7) rfl)))
  have S28 := Sta.start ew10 (Or.inr ⟨(ww hw 45 rfl), (hsets _ (List.mem_of_getElem? (i := 2) rfl))⟩)
  have S29 := Exa.start ew10 (Cond.before_iff.mp (hsets _ (List.mem_of_getElem? (i := 7) rfl)))
  obtain ⟨cl0, A0⟩ := Arr.start ew3 c3
  have L0 := own_len ew3 A0 c5
  have el0_0 := own_elR ew3 ew0 A0 c6
  have el0_1 := own_elR ew3 ew4 A0 c8
  have el0_2 := own_elR ew3 ew2 A0 c9
  have el0_3 := own_elR ew3 ew1 A0 c10
  have el0_4 := own_elR ew3 ew5 A0 c12
  have el0_5 := own_elR ew3 ew6 A0 c14
  have el0_6 := own_elR ew3 ew7 A0 c16
  have el0_7 := own_elR ew3 ew8 A0 c18
  have S30 : Arv s s.heap w3 cl0.cls (.object "com/example/stratafold/stratafold/measure/PopulationType") (8 : Int32) [(.ref w0), (.ref w4), (.ref w2), (.ref w1), (.ref w5), (.ref w6), (.ref w7), (.ref w8)] .null := Arv.start hfit A0 L0.1 L0.2 (by decide) (show (8 : Int32).toNatClampNeg = 8 from by decide) ⟨el0_0, el0_1, el0_2, el0_3, el0_4, el0_5, el0_6, el0_7, trivial⟩
  obtain ⟨cl1, A1⟩ := Arr.start ew9 (Cond.before_iff.mp (hsets _ (List.mem_of_getElem? (i := 3) rfl)))
  have L1 := own_len ew9 A1 (Cond.before_iff.mp (hsets _ (List.mem_of_getElem? (i := 5) rfl)))
  have S31 : Arv s s.heap w9 cl1.cls (.object "java/lang/Object") (0 : Int32) [] .null := Arv.start hfit A1 L1.1 L1.2 (by decide) (by decide) trivial
  obtain ⟨cl2, A2⟩ := Arr.start ew10 (Cond.before_iff.mp (hsets _ (List.mem_of_getElem? (i := 6) rfl)))
  have L2 := own_len ew10 A2 (Cond.before_iff.mp (hsets _ (List.mem_of_getElem? (i := 8) rfl)))
  have S32 : Arv s s.heap w10 cl2.cls (.object "java/lang/Object") (0 : Int32) [] .null := Arv.start hfit A2 L2.1 L2.2 (by decide) (by decide) trivial
  obtain ⟨n, o, h1, h2, h3, _, L, rfl, ⟨rfl, N⟩, hq⟩ := law_all l s _ hw tables_1 i0 i1 i2 i3 w0 w1 w2 w3 w4 w5 w6 w7 w8 w9 w10 cl0.cls cl1.cls cl2.cls s.heap s.heap.size (Nat.le_refl _) S0 S1 S2 S3 S4 S5 S6 S7 S8 S9 S10 S11 S12 S13 S14 S15 S16 S17 S18 S19 S20 S21 S22 S23 S24 S25 S26 S27 S28 S29 S30 S31 S32 p e ha hc hk s m _ below hf ((Spec.applies_iff_loose hf).mp happ).1 ⟨rfl, State.Warmed39.refl s, rfl⟩ trivial
  refine ⟨n, _, h1, h2, h3, hpost _ _ _ _ _ _ ⟨Cond.after_iff.mpr rfl, Cond.after_iff.mpr (eq_i res_at (Term.int_eval (1)) rfl), trivial⟩ ⟨hq.1, hq.2.1, (hq.2.2.sift fun y hy => Or.inr (N y hy)).mono (by decide) (by decide)⟩⟩
theorem main_1_1 : Claimed_1_1 := comes_1 fun _ _ _ _ _ _ h hF => ⟨h.1, hF⟩
theorem main_1_2 : Claimed_1_2 := comes_1 fun _ _ _ _ _ _ h hF => ⟨h.2.1, hF⟩
end Jvm.Pilot.@@N@@
namespace Jvm.Pilot.@@N@@
open Jvm Jvm.ClassFile Sem Op Lib Jvm.Free Jvm.Stand Jvm.Pilot.@@N@@.Jvm.D
/-! MADE BY PROGRAM (witnessworld.py) out of the Statement's table words and the real class files: 23 classes; the members and pool entries that the words name. The judged class is class 1, her method 3. -/
namespace start1
open Jvm.ClassFile
def u (s : String) : CpInfo := .utf8 (stringToUtf16 s)
/-- a pool by its gaps: so many unusable entries, then the entry; so many at the end -/
def gap : Nat → List CpInfo → List CpInfo
  | 0, r => r
  | n + 1, r => .unusable :: gap n r
def poolList (es : List (Nat × CpInfo)) (last : Nat) : List CpInfo := es.foldr (fun e r => gap e.1 (e.2 :: r)) (gap last [])
def pool (es : List (Nat × CpInfo)) (last : Nat) : Array CpInfo := ⟨poolList es last⟩
def fileOf (pool : Array CpInfo) (this : Nat) (attrs : Array Attribute := #[]) (ms : Array MethodInfo := #[]) (fl : Nat := 33) (sup : Nat := 0) (ifs : Array Nat := #[]) (fds : Array FieldInfo := #[]) : ClassFile where
  minorVersion := 0
  majorVersion := 65
  constantPool := pool
  accessFlags := fl
  thisClass := this
  superClass := sup
  interfaces := ifs
  fields := fds
  methods := ms
  attributes := attrs
def plain (name : String) (sup : Option ClassId) : Class where
  name := name
  kind := .ordinary
  loader := none
  accessFlags := 33
  super := sup
  interfaces := #[]
  cf := none
  fields := #[]
  methods := #[]
  instanceTypes := #[]
  staticTypes := #[]
  resolved := #[]
  callSites := []
  init := .initialized
  statics := none
  mirror := none

def pool0 : Array CpInfo := pool [(5, u "<init>"), (0, u "()V"), (1, .class_ 10), (1, u "java/lang/Object"), (85, u "clone"), (0, u "()Ljava/lang/Object;")] 26

def k0c0 : Code := { maxStack := 0, maxLocals := 1, code := object_method_1_code, exceptionTable := #[], attributes := #[] }
def k0m0 : Method := { name := "<init>", desc := "()V", sig := { parameters := [], returnType := none }, accessFlags := 1, code := some k0c0 }
def k0m1 : Method := { name := "clone", desc := "()Ljava/lang/Object;", sig := { parameters := [], returnType := some (.object "java/lang/Object") }, accessFlags := 260, code := none }
/-- java/lang/Object -/
def k0 : Class := { plain "java/lang/Object" none with
  accessFlags := 33
  interfaces := #[]
  cf := some (fileOf pool0 8 #[] #[{ accessFlags := 1, nameIndex := 5, descriptorIndex := 6, attributes := #[] }, { accessFlags := 260, nameIndex := 96, descriptorIndex := 97, attributes := #[] }] 33 0 #[] #[])
  fields := #[]
  methods := #[k0m0, k0m1]
  instanceTypes := #[]
  staticTypes := #[]
  resolved := Array.replicate 124 none
  statics := none }

def pool1 : Array CpInfo := pool [(2, .class_ 4), (0, .nameAndType 5 6), (0, u "java/lang/Object"), (0, u "<init>"), (0, u "()V"), (0, .fieldref 8 9), (0, .class_ 10), (0, .nameAndType 11 12), (0, u "com/example/stratafold/stratafold/measure/PopulationType"), (0, u "INITIAL_POPULATION"), (0, u "Lcom/example/stratafold/stratafold/measure/PopulationType;"), (0, .fieldref 8 14), (0, .nameAndType 15 12), (0, u "DENOMINATOR"), (0, .fieldref 8 17), (0, .nameAndType 18 12), (0, u "DENOMINATOR_EXCLUSION"), (0, .fieldref 8 20), (0, .nameAndType 21 12), (0, u "NUMERATOR"), (0, .fieldref 8 23), (0, .nameAndType 24 12), (0, u "DENOMINATOR_EXCEPTION"), (0, .fieldref 8 26), (0, .nameAndType 27 12), (0, u "MEASURE_POPULATION"), (0, .fieldref 8 29), (0, .nameAndType 30 12), (0, u "MEASURE_POPULATION_EXCLUSION"), (0, .fieldref 8 32), (0, .nameAndType 33 12), (0, u "MEASURE_OBSERVATION"), (0, .methodref 35 36), (0, .class_ 37), (0, .nameAndType 38 39), (0, u "com/example/stratafold/stratafold/measure/TallyAddPinLaw"), (0, u "pick"), (0, u "(I)Lcom/example/stratafold/stratafold/measure/PopulationType;"), (0, .class_ 41), (0, u "com/example/stratafold/stratafold/measure/Tally"), (0, .methodref 40 3), (0, .methodref 40 44), (0, .nameAndType 45 46), (0, u "add"), (0, u "(Lcom/example/stratafold/stratafold/measure/PopulationType;Z)V"), (0, .methodref 35 48), (0, .nameAndType 49 50), (0, u "one"), (0, u "(Z)I"), (0, .methodref 40 52), (0, .nameAndType 53 54), (0, u "count"), (0, u "(Lcom/example/stratafold/stratafold/measure/PopulationType;)I"), (3, u "law"), (0, u "(IIII)Z")] 2

def k1m0 : Method := { name := "<init>", desc := "()V", sig := { parameters := [], returnType := none }, accessFlags := 1, code := none }
def k1c1 : Code := { maxStack := 2, maxLocals := 1, code := method_2_code, exceptionTable := #[], attributes := #[] }
def k1m1 : Method := { name := "pick", desc := "(I)Lcom/example/stratafold/stratafold/measure/PopulationType;", sig := { parameters := [.int], returnType := some (.object "com/example/stratafold/stratafold/measure/PopulationType") }, accessFlags := 10, code := some k1c1 }
def k1c2 : Code := { maxStack := 1, maxLocals := 1, code := method_3_code, exceptionTable := #[], attributes := #[] }
def k1m2 : Method := { name := "one", desc := "(Z)I", sig := { parameters := [.boolean], returnType := some .int }, accessFlags := 10, code := some k1c2 }
def k1c3 : Code := { maxStack := 3, maxLocals := 16, code := code, exceptionTable := #[], attributes := #[] }
def k1m3 : Method := { name := "law", desc := "(IIII)Z", sig := { parameters := [.int, .int, .int, .int], returnType := some .boolean }, accessFlags := 9, code := some k1c3 }
/-- com/example/stratafold/stratafold/measure/TallyAddPinLaw -/
def k1 : Class := { plain "com/example/stratafold/stratafold/measure/TallyAddPinLaw" (some 0) with
  accessFlags := 49
  interfaces := #[]
  cf := some (fileOf pool1 35 #[] #[{ accessFlags := 1, nameIndex := 5, descriptorIndex := 6, attributes := #[] }, { accessFlags := 10, nameIndex := 38, descriptorIndex := 39, attributes := #[] }, { accessFlags := 10, nameIndex := 49, descriptorIndex := 50, attributes := #[] }, { accessFlags := 9, nameIndex := 58, descriptorIndex := 59, attributes := #[] }] 49 2 #[] #[])
  fields := #[]
  methods := #[k1m0, k1m1, k1m2, k1m3]
  instanceTypes := #[]
  staticTypes := #[]
  resolved := Array.replicate 62 none
  statics := none }

def pool2 : Array CpInfo := pool [(1, .class_ 2), (0, u "java/lang/constant/Constable"), (0, .class_ 4), (0, u "java/lang/Object")] 6

/-- java/lang/constant/Constable -/
def k2 : Class := { plain "java/lang/constant/Constable" (some 0) with
  accessFlags := 1537
  interfaces := #[]
  cf := some (fileOf pool2 1 #[] #[] 1537 3 #[] #[])
  fields := #[]
  methods := #[]
  instanceTypes := #[]
  staticTypes := #[]
  resolved := Array.replicate 11 none
  statics := none }

def pool3 : Array CpInfo := pool [(1, .class_ 2), (0, u "java/lang/Comparable"), (0, .class_ 4), (0, u "java/lang/Object")] 7

/-- java/lang/Comparable -/
def k3 : Class := { plain "java/lang/Comparable" (some 0) with
  accessFlags := 1537
  interfaces := #[]
  cf := some (fileOf pool3 1 #[] #[] 1537 3 #[] #[])
  fields := #[]
  methods := #[]
  instanceTypes := #[]
  staticTypes := #[]
  resolved := Array.replicate 12 none
  statics := none }

def pool4 : Array CpInfo := pool [(1, .class_ 2), (0, u "java/io/Serializable"), (0, .class_ 4), (0, u "java/lang/Object")] 2

/-- java/io/Serializable -/
def k4 : Class := { plain "java/io/Serializable" (some 0) with
  accessFlags := 1537
  interfaces := #[]
  cf := some (fileOf pool4 1 #[] #[] 1537 3 #[] #[])
  fields := #[]
  methods := #[]
  instanceTypes := #[]
  staticTypes := #[]
  resolved := Array.replicate 7 none
  statics := none }

def pool5 : Array CpInfo := pool [(2, .class_ 4), (1, u "java/lang/Enum"), (0, u "name"), (0, u "Ljava/lang/String;"), (0, .fieldref 2 8), (0, .nameAndType 9 10), (0, u "ordinal"), (0, u "I"), (1, .class_ 14), (1, u "java/lang/Object"), (4, u "hash"), (86, .class_ 108), (1, u "java/lang/Enum$EnumDesc"), (2, .class_ 112), (0, u "java/lang/constant/Constable"), (0, .class_ 114), (0, u "java/lang/Comparable"), (0, .class_ 116), (0, u "java/io/Serializable"), (9, u "()I")] 77

def k5c0 : Code := { maxStack := 1, maxLocals := 1, code := jdk_37_method_2_code, exceptionTable := #[], attributes := #[] }
def k5m0 : Method := { name := "ordinal", desc := "()I", sig := { parameters := [], returnType := some .int }, accessFlags := 17, code := some k5c0 }
/-- java/lang/Enum -/
def k5 : Class := { plain "java/lang/Enum" (some 0) with
  accessFlags := 1057
  interfaces := #[2, 3, 4]
  cf := some (fileOf pool5 2 #[.nestMembers #[106]] #[{ accessFlags := 17, nameIndex := 9, descriptorIndex := 126, attributes := #[] }] 1057 12 #[111, 113, 115] #[{ accessFlags := 18, nameIndex := 5, descriptorIndex := 6, attributes := #[] }, { accessFlags := 18, nameIndex := 9, descriptorIndex := 10, attributes := #[] }, { accessFlags := 2, nameIndex := 19, descriptorIndex := 10, attributes := #[] }])
  fields := #[{ name := "name", type := (.object "java/lang/String"), accessFlags := 18, slot := 0, constantValue := 0 }, { name := "ordinal", type := .int, accessFlags := 18, slot := 1, constantValue := 0 }, { name := "hash", type := .int, accessFlags := 2, slot := 2, constantValue := 0 }]
  methods := #[k5m0]
  instanceTypes := #[(.object "java/lang/String"), .int, .int]
  staticTypes := #[]
  resolved := Array.replicate 204 none
  statics := none }

def pool6 : Array CpInfo := pool [(1, .class_ 2), (0, u "com/example/stratafold/stratafold/measure/PopulationType"), (2, u "INITIAL_POPULATION"), (0, u "Lcom/example/stratafold/stratafold/measure/PopulationType;"), (2, u "DENOMINATOR"), (2, u "DENOMINATOR_EXCLUSION"), (2, u "NUMERATOR"), (2, u "DENOMINATOR_EXCEPTION"), (2, u "MEASURE_POPULATION"), (2, u "MEASURE_POPULATION_EXCLUSION"), (2, u "MEASURE_OBSERVATION"), (0, .fieldref 1 29), (0, .nameAndType 30 31), (0, u "$VALUES"), (0, u "[Lcom/example/stratafold/stratafold/measure/PopulationType;"), (0, .methodref 33 34), (0, .class_ 31), (0, .nameAndType 35 36), (0, u "clone"), (0, u "()Ljava/lang/Object;"), (1, .class_ 40), (1, u "java/lang/Enum"), (8, u "code"), (0, u "Ljava/lang/String;"), (2, u "BY_CODE"), (0, u "Ljava/util/Map;"), (36, u "()[Lcom/example/stratafold/stratafold/measure/PopulationType;"), (7, u "values")] 18

def k6c0 : Code := { maxStack := 1, maxLocals := 0, code := prog_26_method_1_code, exceptionTable := #[], attributes := #[] }
def k6m0 : Method := { name := "values", desc := "()[Lcom/example/stratafold/stratafold/measure/PopulationType;", sig := { parameters := [], returnType := some (.array (.object "com/example/stratafold/stratafold/measure/PopulationType")) }, accessFlags := 9, code := some k6c0 }
/-- com/example/stratafold/stratafold/measure/PopulationType -/
def k6 : Class := { plain "com/example/stratafold/stratafold/measure/PopulationType" (some 5) with
  accessFlags := 16433
  interfaces := #[]
  cf := some (fileOf pool6 1 #[] #[{ accessFlags := 9, nameIndex := 99, descriptorIndex := 91, attributes := #[] }] 16433 38 #[] #[{ accessFlags := 16409, nameIndex := 5, descriptorIndex := 6, attributes := #[] }, { accessFlags := 16409, nameIndex := 9, descriptorIndex := 6, attributes := #[] }, { accessFlags := 16409, nameIndex := 12, descriptorIndex := 6, attributes := #[] }, { accessFlags := 16409, nameIndex := 15, descriptorIndex := 6, attributes := #[] }, { accessFlags := 16409, nameIndex := 18, descriptorIndex := 6, attributes := #[] }, { accessFlags := 16409, nameIndex := 21, descriptorIndex := 6, attributes := #[] }, { accessFlags := 16409, nameIndex := 24, descriptorIndex := 6, attributes := #[] }, { accessFlags := 16409, nameIndex := 27, descriptorIndex := 6, attributes := #[] }, { accessFlags := 26, nameIndex := 53, descriptorIndex := 54, attributes := #[] }, { accessFlags := 18, nameIndex := 49, descriptorIndex := 50, attributes := #[] }, { accessFlags := 4122, nameIndex := 30, descriptorIndex := 31, attributes := #[] }])
  fields := #[{ name := "INITIAL_POPULATION", type := (.object "com/example/stratafold/stratafold/measure/PopulationType"), accessFlags := 16409, slot := 0, constantValue := 0 }, { name := "DENOMINATOR", type := (.object "com/example/stratafold/stratafold/measure/PopulationType"), accessFlags := 16409, slot := 1, constantValue := 0 }, { name := "DENOMINATOR_EXCLUSION", type := (.object "com/example/stratafold/stratafold/measure/PopulationType"), accessFlags := 16409, slot := 2, constantValue := 0 }, { name := "NUMERATOR", type := (.object "com/example/stratafold/stratafold/measure/PopulationType"), accessFlags := 16409, slot := 3, constantValue := 0 }, { name := "DENOMINATOR_EXCEPTION", type := (.object "com/example/stratafold/stratafold/measure/PopulationType"), accessFlags := 16409, slot := 4, constantValue := 0 }, { name := "MEASURE_POPULATION", type := (.object "com/example/stratafold/stratafold/measure/PopulationType"), accessFlags := 16409, slot := 5, constantValue := 0 }, { name := "MEASURE_POPULATION_EXCLUSION", type := (.object "com/example/stratafold/stratafold/measure/PopulationType"), accessFlags := 16409, slot := 6, constantValue := 0 }, { name := "MEASURE_OBSERVATION", type := (.object "com/example/stratafold/stratafold/measure/PopulationType"), accessFlags := 16409, slot := 7, constantValue := 0 }, { name := "BY_CODE", type := (.object "java/util/Map"), accessFlags := 26, slot := 8, constantValue := 0 }, { name := "code", type := (.object "java/lang/String"), accessFlags := 18, slot := 3, constantValue := 0 }, { name := "$VALUES", type := (.array (.object "com/example/stratafold/stratafold/measure/PopulationType")), accessFlags := 4122, slot := 9, constantValue := 0 }]
  methods := #[k6m0]
  instanceTypes := #[(.object "java/lang/String"), .int, .int, (.object "java/lang/String")]
  staticTypes := #[(.object "com/example/stratafold/stratafold/measure/PopulationType"), (.object "com/example/stratafold/stratafold/measure/PopulationType"), (.object "com/example/stratafold/stratafold/measure/PopulationType"), (.object "com/example/stratafold/stratafold/measure/PopulationType"), (.object "com/example/stratafold/stratafold/measure/PopulationType"), (.object "com/example/stratafold/stratafold/measure/PopulationType"), (.object "com/example/stratafold/stratafold/measure/PopulationType"), (.object "com/example/stratafold/stratafold/measure/PopulationType"), (.object "java/util/Map"), (.array (.object "com/example/stratafold/stratafold/measure/PopulationType"))]
  resolved := Array.replicate 118 none
  statics := some 0 }

def pool7 : Array CpInfo := pool [(1, .methodref 2 3), (0, .class_ 4), (0, .nameAndType 5 6), (0, u "java/lang/Object"), (0, u "<init>"), (0, u "()V"), (0, .methodref 8 9), (0, .class_ 10), (0, .nameAndType 11 12), (0, u "com/example/stratafold/stratafold/measure/PopulationType"), (0, u "values"), (0, u "()[Lcom/example/stratafold/stratafold/measure/PopulationType;"), (0, .fieldref 14 15), (0, .class_ 16), (0, .nameAndType 17 18), (0, u "com/example/stratafold/stratafold/measure/Tally"), (0, u "counts"), (0, u "[I"), (0, .class_ 20), (0, u "java/util/ArrayList"), (0, .methodref 19 3), (0, .fieldref 14 23), (0, .nameAndType 24 25), (0, u "observations"), (0, u "Ljava/util/List;"), (0, .methodref 8 27), (0, .nameAndType 28 29), (0, u "ordinal"), (0, u "()I"), (4, u "add"), (7, u "(Lcom/example/stratafold/stratafold/measure/PopulationType;Z)V"), (13, u "count"), (0, u "(Lcom/example/stratafold/stratafold/measure/PopulationType;)I")] 4

def k7c0 : Code := { maxStack := 3, maxLocals := 1, code := prog_30_method_1_code, exceptionTable := #[], attributes := #[] }
def k7m0 : Method := { name := "<init>", desc := "()V", sig := { parameters := [], returnType := none }, accessFlags := 0, code := some k7c0 }
def k7c1 : Code := { maxStack := 4, maxLocals := 3, code := prog_30_method_2_code, exceptionTable := #[], attributes := #[] }
def k7m1 : Method := { name := "add", desc := "(Lcom/example/stratafold/stratafold/measure/PopulationType;Z)V", sig := { parameters := [(.object "com/example/stratafold/stratafold/measure/PopulationType"), .boolean], returnType := none }, accessFlags := 0, code := some k7c1 }
def k7c2 : Code := { maxStack := 2, maxLocals := 2, code := prog_30_method_5_code, exceptionTable := #[], attributes := #[] }
def k7m2 : Method := { name := "count", desc := "(Lcom/example/stratafold/stratafold/measure/PopulationType;)I", sig := { parameters := [(.object "com/example/stratafold/stratafold/measure/PopulationType")], returnType := some .int }, accessFlags := 0, code := some k7c2 }
/-- com/example/stratafold/stratafold/measure/Tally -/
def k7 : Class := { plain "com/example/stratafold/stratafold/measure/Tally" (some 0) with
  accessFlags := 48
  interfaces := #[]
  cf := some (fileOf pool7 14 #[] #[{ accessFlags := 0, nameIndex := 5, descriptorIndex := 6, attributes := #[] }, { accessFlags := 0, nameIndex := 34, descriptorIndex := 42, attributes := #[] }, { accessFlags := 0, nameIndex := 56, descriptorIndex := 57, attributes := #[] }] 48 2 #[] #[{ accessFlags := 18, nameIndex := 17, descriptorIndex := 18, attributes := #[] }, { accessFlags := 18, nameIndex := 24, descriptorIndex := 25, attributes := #[] }])
  fields := #[{ name := "counts", type := (.array .int), accessFlags := 18, slot := 0, constantValue := 0 }, { name := "observations", type := (.object "java/util/List"), accessFlags := 18, slot := 1, constantValue := 0 }]
  methods := #[k7m0, k7m1, k7m2]
  instanceTypes := #[(.array .int), (.object "java/util/List")]
  staticTypes := #[]
  resolved := Array.replicate 62 none
  statics := none }

def pool8 : Array CpInfo := pool [(1, .class_ 2), (0, u "java/lang/Cloneable"), (0, .class_ 4), (0, u "java/lang/Object")] 2

/-- java/lang/Cloneable -/
def k8 : Class := { plain "java/lang/Cloneable" (some 0) with
  accessFlags := 1537
  interfaces := #[]
  cf := some (fileOf pool8 1 #[] #[] 1537 3 #[] #[])
  fields := #[]
  methods := #[]
  instanceTypes := #[]
  staticTypes := #[]
  resolved := Array.replicate 7 none
  statics := none }

def pool9 : Array CpInfo := pool [(8, .class_ 10), (1, u "java/lang/Iterable"), (24, .class_ 36), (0, u "java/lang/Object")] 25

/-- java/lang/Iterable -/
def k9 : Class := { plain "java/lang/Iterable" (some 0) with
  accessFlags := 1537
  interfaces := #[]
  cf := some (fileOf pool9 8 #[] #[] 1537 35 #[] #[])
  fields := #[]
  methods := #[]
  instanceTypes := #[]
  staticTypes := #[]
  resolved := Array.replicate 62 none
  statics := none }

def pool10 : Array CpInfo := pool [(10, .class_ 12), (1, u "java/util/Collection"), (47, .class_ 61), (0, u "java/lang/Object"), (0, .class_ 63), (0, u "java/lang/Iterable")] 51

/-- java/util/Collection -/
def k10 : Class := { plain "java/util/Collection" (some 0) with
  accessFlags := 1537
  interfaces := #[9]
  cf := some (fileOf pool10 10 #[] #[] 1537 60 #[62] #[])
  fields := #[]
  methods := #[]
  instanceTypes := #[]
  staticTypes := #[]
  resolved := Array.replicate 115 none
  statics := none }

def pool11 : Array CpInfo := pool [(1, .methodref 2 3), (0, .class_ 4), (0, .nameAndType 5 6), (0, u "java/lang/Object"), (0, u "<init>"), (0, u "()V"), (1, .class_ 10), (1, u "java/util/AbstractCollection"), (66, .class_ 78), (0, u "java/util/Collection")] 81

def k11c0 : Code := { maxStack := 1, maxLocals := 1, code := jdk_22_method_1_code, exceptionTable := #[], attributes := #[] }
def k11m0 : Method := { name := "<init>", desc := "()V", sig := { parameters := [], returnType := none }, accessFlags := 4, code := some k11c0 }
/-- java/util/AbstractCollection -/
def k11 : Class := { plain "java/util/AbstractCollection" (some 0) with
  accessFlags := 1057
  interfaces := #[10]
  cf := some (fileOf pool11 8 #[] #[{ accessFlags := 4, nameIndex := 5, descriptorIndex := 6, attributes := #[] }] 1057 2 #[77] #[])
  fields := #[]
  methods := #[k11m0]
  instanceTypes := #[]
  staticTypes := #[]
  resolved := Array.replicate 160 none
  statics := none }

def pool12 : Array CpInfo := pool [(8, .class_ 10), (1, u "java/util/SequencedCollection"), (15, .class_ 27), (0, u "java/lang/Object"), (0, .class_ 29), (0, u "java/util/Collection")] 27

/-- java/util/SequencedCollection -/
def k12 : Class := { plain "java/util/SequencedCollection" (some 0) with
  accessFlags := 1537
  interfaces := #[10]
  cf := some (fileOf pool12 8 #[] #[] 1537 26 #[28] #[])
  fields := #[]
  methods := #[]
  instanceTypes := #[]
  staticTypes := #[]
  resolved := Array.replicate 57 none
  statics := none }

def pool13 : Array CpInfo := pool [(8, .class_ 10), (1, u "java/util/List"), (92, .class_ 104), (0, u "java/lang/Object"), (15, .class_ 121), (0, u "java/util/SequencedCollection")] 129

/-- java/util/List -/
def k13 : Class := { plain "java/util/List" (some 0) with
  accessFlags := 1537
  interfaces := #[12]
  cf := some (fileOf pool13 8 #[] #[] 1537 103 #[120] #[])
  fields := #[]
  methods := #[]
  instanceTypes := #[]
  staticTypes := #[]
  resolved := Array.replicate 251 none
  statics := none }

def pool14 : Array CpInfo := pool [(1, .methodref 2 3), (0, .class_ 4), (0, .nameAndType 5 6), (0, u "java/util/AbstractCollection"), (0, u "<init>"), (0, u "()V"), (0, .fieldref 8 9), (0, .class_ 10), (0, .nameAndType 11 12), (0, u "java/util/AbstractList"), (0, u "modCount"), (0, u "I"), (64, .class_ 78), (0, u "java/util/AbstractList$Itr"), (3, .class_ 83), (0, u "java/util/AbstractList$ListItr"), (9, .class_ 94), (0, u "java/util/AbstractList$RandomAccessSubList"), (3, .class_ 99), (0, u "java/util/AbstractList$SubList"), (33, .class_ 134), (0, u "java/util/List"), (73, .class_ 209), (0, u "java/util/AbstractList$SubList$1"), (0, .class_ 211), (0, u "java/util/AbstractList$RandomAccessSpliterator")] 6

def k14c0 : Code := { maxStack := 2, maxLocals := 1, code := jdk_39_method_1_code, exceptionTable := #[], attributes := #[] }
def k14m0 : Method := { name := "<init>", desc := "()V", sig := { parameters := [], returnType := none }, accessFlags := 4, code := some k14c0 }
/-- java/util/AbstractList -/
def k14 : Class := { plain "java/util/AbstractList" (some 11) with
  accessFlags := 1057
  interfaces := #[13]
  cf := some (fileOf pool14 8 #[.nestMembers #[93, 98, 208, 210, 82, 77]] #[{ accessFlags := 4, nameIndex := 5, descriptorIndex := 6, attributes := #[] }] 1057 2 #[133] #[{ accessFlags := 132, nameIndex := 11, descriptorIndex := 12, attributes := #[] }])
  fields := #[{ name := "modCount", type := .int, accessFlags := 132, slot := 0, constantValue := 0 }]
  methods := #[k14m0]
  instanceTypes := #[.int]
  staticTypes := #[]
  resolved := Array.replicate 218 none
  statics := none }

def pool15 : Array CpInfo := pool [(1, .class_ 2), (0, u "java/util/RandomAccess"), (0, .class_ 4), (0, u "java/lang/Object")] 2

/-- java/util/RandomAccess -/
def k15 : Class := { plain "java/util/RandomAccess" (some 0) with
  accessFlags := 1537
  interfaces := #[]
  cf := some (fileOf pool15 1 #[] #[] 1537 3 #[] #[])
  fields := #[]
  methods := #[]
  instanceTypes := #[]
  staticTypes := #[]
  resolved := Array.replicate 7 none
  statics := none }

def pool16 : Array CpInfo := pool [(1, .methodref 2 3), (0, .class_ 4), (0, .nameAndType 5 6), (0, u "java/util/AbstractList"), (0, u "<init>"), (0, u "()V"), (2, .fieldref 10 11), (0, .class_ 12), (0, .nameAndType 13 14), (0, u "java/util/ArrayList"), (0, u "elementData"), (0, u "[Ljava/lang/Object;"), (2, u "EMPTY_ELEMENTDATA"), (21, .fieldref 10 40), (0, .nameAndType 41 14), (0, u "DEFAULTCAPACITY_EMPTY_ELEMENTDATA"), (8, u "size"), (0, u "I"), (96, .class_ 149), (0, u "java/util/List"), (112, .class_ 263), (0, u "java/util/ArrayList$ListItr"), (3, .class_ 268), (0, u "java/util/ArrayList$Itr"), (7, .class_ 277), (0, u "java/util/ArrayList$SubList"), (12, .class_ 291), (0, u "java/util/ArrayList$ArrayListSpliterator"), (37, .class_ 330), (0, u "java/util/RandomAccess"), (0, .class_ 332), (0, u "java/lang/Cloneable"), (0, .class_ 334), (0, u "java/io/Serializable"), (0, u "serialVersionUID"), (0, u "J"), (3, u "DEFAULT_CAPACITY"), (159, .class_ 501), (0, u "java/util/ArrayList$SubList$2"), (0, .class_ 503), (0, u "java/util/ArrayList$SubList$1")] 5

def k16c0 : Code := { maxStack := 2, maxLocals := 1, code := jdk_38_method_2_code, exceptionTable := #[], attributes := #[] }
def k16m0 : Method := { name := "<init>", desc := "()V", sig := { parameters := [], returnType := none }, accessFlags := 1, code := some k16c0 }
/-- java/util/ArrayList -/
def k16 : Class := { plain "java/util/ArrayList" (some 14) with
  accessFlags := 33
  interfaces := #[13, 15, 8, 4]
  cf := some (fileOf pool16 10 #[.nestMembers #[290, 276, 500, 502, 262, 267]] #[{ accessFlags := 1, nameIndex := 5, descriptorIndex := 6, attributes := #[] }] 33 2 #[148, 329, 331, 333] #[{ accessFlags := 26, nameIndex := 335, descriptorIndex := 336, attributes := #[] }, { accessFlags := 26, nameIndex := 340, descriptorIndex := 51, attributes := #[] }, { accessFlags := 26, nameIndex := 17, descriptorIndex := 14, attributes := #[] }, { accessFlags := 26, nameIndex := 41, descriptorIndex := 14, attributes := #[] }, { accessFlags := 128, nameIndex := 13, descriptorIndex := 14, attributes := #[] }, { accessFlags := 2, nameIndex := 50, descriptorIndex := 51, attributes := #[] }])
  fields := #[{ name := "serialVersionUID", type := .long, accessFlags := 26, slot := 0, constantValue := 0 }, { name := "DEFAULT_CAPACITY", type := .int, accessFlags := 26, slot := 1, constantValue := 0 }, { name := "EMPTY_ELEMENTDATA", type := (.array (.object "java/lang/Object")), accessFlags := 26, slot := 2, constantValue := 0 }, { name := "DEFAULTCAPACITY_EMPTY_ELEMENTDATA", type := (.array (.object "java/lang/Object")), accessFlags := 26, slot := 3, constantValue := 0 }, { name := "elementData", type := (.array (.object "java/lang/Object")), accessFlags := 128, slot := 1, constantValue := 0 }, { name := "size", type := .int, accessFlags := 2, slot := 2, constantValue := 0 }]
  methods := #[k16m0]
  instanceTypes := #[.int, (.array (.object "java/lang/Object")), .int]
  staticTypes := #[.long, .int, (.array (.object "java/lang/Object")), (.array (.object "java/lang/Object"))]
  resolved := Array.replicate 509 none
  statics := some 1 }

/-- the primitive byte -/
def k17 : Class := { plain "byte" none with kind := .primitive 'B', accessFlags := 0x411 }
/-- [B -/
def k18 : Class := { plain "[B" (some 0) with kind := .array 17 .byte, interfaces := #[8, 4], accessFlags := 1041 }

/-- the primitive int -/
def k19 : Class := { plain "int" none with kind := .primitive 'I', accessFlags := 0x411 }
/-- [I -/
def k20 : Class := { plain "[I" (some 0) with kind := .array 19 .int, interfaces := #[8, 4], accessFlags := 1041 }

/-- [Lcom/example/stratafold/stratafold/measure/PopulationType; -/
def k21 : Class := { plain "[Lcom/example/stratafold/stratafold/measure/PopulationType;" (some 0) with kind := .array 6 (.object "com/example/stratafold/stratafold/measure/PopulationType"), interfaces := #[8, 4], accessFlags := 1041 }

/-- [Ljava/lang/Object; -/
def k22 : Class := { plain "[Ljava/lang/Object;" (some 0) with kind := .array 0 (.object "java/lang/Object"), interfaces := #[8, 4], accessFlags := 1041 }

def heap : Heap := #[{ cls := 6, slots := #[.ref 3, .ref 6, .ref 5, .ref 4, .ref 7, .ref 8, .ref 9, .ref 10, .null, .ref 2], vm := .statics 6 },
  { cls := 16, slots := #[.long 0, .int 0, .ref 11, .ref 12], vm := .statics 16 },
  { cls := 21, slots := #[.ref 3, .ref 6, .ref 5, .ref 4, .ref 7, .ref 8, .ref 9, .ref 10], vm := .none },
  { cls := 6, slots := #[.null, .int 0, .int 0, .null], vm := .none },
  { cls := 6, slots := #[.null, .int 3, .int 0, .null], vm := .none },
  { cls := 6, slots := #[.null, .int 2, .int 0, .null], vm := .none },
  { cls := 6, slots := #[.null, .int 1, .int 0, .null], vm := .none },
  { cls := 6, slots := #[.null, .int 4, .int 0, .null], vm := .none },
  { cls := 6, slots := #[.null, .int 5, .int 0, .null], vm := .none },
  { cls := 6, slots := #[.null, .int 6, .int 0, .null], vm := .none },
  { cls := 6, slots := #[.null, .int 7, .int 0, .null], vm := .none },
  { cls := 22, slots := #[], vm := .none },
  { cls := 22, slots := #[], vm := .none }]
def classes : Array Class := #[k0, k1, k2, k3, k4, k5, k6, k7, k8, k9, k10, k11, k12, k13, k14, k15, k16, k17, k18, k19, k20, k21, k22]
def interned : List (Array UInt16 × Addr) := []
def slotsUsed : Nat := 54
def theMethod : MethodId := ⟨1, 3⟩
def args0 : Array Value := #[.int 5, .int 5, .int 5, .int 5]
def aboutOver (below : List Frame) : State where
  vm := { classes := classes, interned := interned.toArray }
  heap := heap
  slotsUsed := slotsUsed
  threads := #[{ frames := .invoking theMethod args0 :: below }]
def below0 : List Frame := [.native { method := ⟨0, 0⟩, args := #[] }]
def about1 : State := aboutOver below0
def p0 : Program := .bare "" "" ""
def e0 : Env := launch0.env 0 0 0
theorem w_frames : about1.frames = Frame.invoking theMethod args0 :: below0 := rfl
set_option maxRecDepth 65536 in
theorem w_args : argsFit about1.vm theMethod args0 = true := by decide +kernel
set_option maxRecDepth 65536 in
theorem w_heap : heapFits about1 = true := by decide +kernel
set_option maxRecDepth 65536 in
theorem w_runnable : about1.curStatus? = some .runnable := by decide +kernel
set_option maxRecDepth 65536 in
theorem w_alone : about1.alone = true := by decide +kernel
set_option maxRecDepth 65536 in
theorem w_named : about1.methodNamed? x = some theMethod := by decide +kernel
set_option maxRecDepth 65536 in
theorem w_hears : about1.hears theMethod below0 = true := by decide +kernel
set_option maxRecDepth 65536 in
theorem w_ripe : about1.ripe theMethod args0 below0 = true := by decide +kernel
theorem w_running : about1.status = .running := rfl
set_option maxRecDepth 65536 in
theorem w_room : about1.hasRoom e0.platform room_1 = true :=
  launch0.hasRoom_least _ room_1 (by decide +kernel) (by decide +kernel) (by decide +kernel) (by decide +kernel) (by decide +kernel) (by decide +kernel)
theorem allAtoms_all (ts : List Jvm.Cond) (a : Array Jvm.Value) (st : Jvm.State) : (allAtoms ts).before a st = ts.all (fun c => c.before a st) := by
  induction ts with
  | nil => rfl
  | cons c t ih =>
    show (Jvm.Cond.and c (allAtoms t)).before a st = _
    rw [Jvm.Cond.before_and, ih, List.all_cons]
def words1 : List Jvm.Cond := Jvm.Cond.code x code maxLocals ret :: tables_1
/-- a 'code' word, met by the world's own term for the bytes: nothing is compared byte by byte -/
theorem code_word {y : MethodName} {bytes : ByteArray} {mx : Nat} {rt : Option FieldType} {a : Array Value} {s : State} {m : MethodId} {meth : Method} {c : Code} (h1 : s.methodNamed? y = some m) (h2 : s.vm.method? m = some meth) (h3 : meth.code = some c) (h4 : c.code = bytes)
    (h5 : (c.maxLocals == mx && c.exceptionTable.isEmpty && decide (c.maxStack ≤ mostOperands) && decide (meth.sig.returnType = rt) && !meth.locks && decide (parseMethodDescriptor y.desc = some meth.sig)) = true) : (Jvm.Cond.code y bytes mx rt).before a s = true := by
  simp only [Bool.and_eq_true, beq_iff_eq, Bool.not_eq_true', decide_eq_true_eq] at h5
  obtain ⟨⟨⟨⟨⟨g1, g2⟩, g3⟩, g4⟩, g5⟩, g6⟩ := h5
  simp [Cond.before, Cond.holds, Cond.value, h1, h2, h3, h4, g1, g2, g3, g4, g5, g6]
def isCode : Jvm.Cond → Bool
  | .code _ _ _ _ => true
  | _ => false
theorem all_split {L : List Jvm.Cond} {P : Jvm.Cond → Bool} (h1 : L.all (fun c => isCode c || P c) = true) (h2 : ∀ c ∈ L.filter isCode, P c = true) : L.all P = true := by
  refine List.all_eq_true.mpr fun c hc => ?_
  have h := List.all_eq_true.mp h1 c hc
  rcases Bool.eq_false_or_eq_true (isCode c) with hi | hi
  · exact h2 c (List.mem_filter.mpr ⟨hc, hi⟩)
  · simpa [hi] using h
set_option maxRecDepth 65536 in
theorem w_c0 : (Jvm.Cond.code x code maxLocals ret).before args0 about1 = true := code_word (m := ⟨1, 3⟩) (meth := k1m3) (c := k1c3) (by decide +kernel) rfl rfl rfl (by decide +kernel)
set_option maxRecDepth 65536 in
theorem w_c1 : (Jvm.Cond.code ({ cls := "com/example/stratafold/stratafold/measure/TallyAddPinLaw", name := "pick", desc := "(I)Lcom/example/stratafold/stratafold/measure/PopulationType;" } : Jvm.MethodName) method_2_code (1 : Nat) (Option.some (Jvm.ClassFile.FieldType.object "com/example/stratafold/stratafold/measure/PopulationType"))).before args0 about1 = true := code_word (m := ⟨1, 1⟩) (meth := k1m1) (c := k1c1) (by decide +kernel) rfl rfl rfl (by decide +kernel)
set_option maxRecDepth 65536 in
theorem w_c2 : (Jvm.Cond.code ({ cls := "com/example/stratafold/stratafold/measure/Tally", name := "<init>", desc := "()V" } : Jvm.MethodName) prog_30_method_1_code (1 : Nat) (Option.none : Option Jvm.ClassFile.FieldType)).before args0 about1 = true := code_word (m := ⟨7, 0⟩) (meth := k7m0) (c := k7c0) (by decide +kernel) rfl rfl rfl (by decide +kernel)
set_option maxRecDepth 65536 in
theorem w_c3 : (Jvm.Cond.code ({ cls := "java/lang/Object", name := "<init>", desc := "()V" } : Jvm.MethodName) object_method_1_code (1 : Nat) (Option.none : Option Jvm.ClassFile.FieldType)).before args0 about1 = true := code_word (m := ⟨0, 0⟩) (meth := k0m0) (c := k0c0) (by decide +kernel) rfl rfl rfl (by decide +kernel)
set_option maxRecDepth 65536 in
theorem w_c4 : (Jvm.Cond.code ({ cls := "com/example/stratafold/stratafold/measure/PopulationType", name := "values", desc := "()[Lcom/example/stratafold/stratafold/measure/PopulationType;" } : Jvm.MethodName) prog_26_method_1_code (0 : Nat) (Option.some (Jvm.ClassFile.FieldType.array (Jvm.ClassFile.FieldType.object "com/example/stratafold/stratafold/measure/PopulationType")))).before args0 about1 = true := code_word (m := ⟨6, 0⟩) (meth := k6m0) (c := k6c0) (by decide +kernel) rfl rfl rfl (by decide +kernel)
set_option maxRecDepth 65536 in
theorem w_c5 : (Jvm.Cond.code ({ cls := "java/util/ArrayList", name := "<init>", desc := "()V" } : Jvm.MethodName) jdk_38_method_2_code (1 : Nat) (Option.none : Option Jvm.ClassFile.FieldType)).before args0 about1 = true := code_word (m := ⟨16, 0⟩) (meth := k16m0) (c := k16c0) (by decide +kernel) rfl rfl rfl (by decide +kernel)
set_option maxRecDepth 65536 in
theorem w_c6 : (Jvm.Cond.code ({ cls := "java/util/AbstractList", name := "<init>", desc := "()V" } : Jvm.MethodName) jdk_39_method_1_code (1 : Nat) (Option.none : Option Jvm.ClassFile.FieldType)).before args0 about1 = true := code_word (m := ⟨14, 0⟩) (meth := k14m0) (c := k14c0) (by decide +kernel) rfl rfl rfl (by decide +kernel)
set_option maxRecDepth 65536 in
theorem w_c7 : (Jvm.Cond.code ({ cls := "java/util/AbstractCollection", name := "<init>", desc := "()V" } : Jvm.MethodName) jdk_22_method_1_code (1 : Nat) (Option.none : Option Jvm.ClassFile.FieldType)).before args0 about1 = true := code_word (m := ⟨11, 0⟩) (meth := k11m0) (c := k11c0) (by decide +kernel) rfl rfl rfl (by decide +kernel)
set_option maxRecDepth 65536 in
theorem w_c8 : (Jvm.Cond.code ({ cls := "com/example/stratafold/stratafold/measure/Tally", name := "add", desc := "(Lcom/example/stratafold/stratafold/measure/PopulationType;Z)V" } : Jvm.MethodName) prog_30_method_2_code (3 : Nat) (Option.none : Option Jvm.ClassFile.FieldType)).before args0 about1 = true := code_word (m := ⟨7, 1⟩) (meth := k7m1) (c := k7c1) (by decide +kernel) rfl rfl rfl (by decide +kernel)
set_option maxRecDepth 65536 in
theorem w_c9 : (Jvm.Cond.code ({ cls := "java/lang/Enum", name := "ordinal", desc := "()I" } : Jvm.MethodName) jdk_37_method_2_code (1 : Nat) (Option.some Jvm.ClassFile.FieldType.int)).before args0 about1 = true := code_word (m := ⟨5, 0⟩) (meth := k5m0) (c := k5c0) (by decide +kernel) rfl rfl rfl (by decide +kernel)
set_option maxRecDepth 65536 in
theorem w_c10 : (Jvm.Cond.code ({ cls := "com/example/stratafold/stratafold/measure/TallyAddPinLaw", name := "one", desc := "(Z)I" } : Jvm.MethodName) method_3_code (1 : Nat) (Option.some Jvm.ClassFile.FieldType.int)).before args0 about1 = true := code_word (m := ⟨1, 2⟩) (meth := k1m2) (c := k1c2) (by decide +kernel) rfl rfl rfl (by decide +kernel)
set_option maxRecDepth 65536 in
theorem w_c11 : (Jvm.Cond.code ({ cls := "com/example/stratafold/stratafold/measure/Tally", name := "count", desc := "(Lcom/example/stratafold/stratafold/measure/PopulationType;)I" } : Jvm.MethodName) prog_30_method_5_code (2 : Nat) (Option.some Jvm.ClassFile.FieldType.int)).before args0 about1 = true := code_word (m := ⟨7, 2⟩) (meth := k7m2) (c := k7c2) (by decide +kernel) rfl rfl rfl (by decide +kernel)
def codes1 : List Jvm.Cond := [Jvm.Cond.code x code maxLocals ret, Jvm.Cond.code ({ cls := "com/example/stratafold/stratafold/measure/TallyAddPinLaw", name := "pick", desc := "(I)Lcom/example/stratafold/stratafold/measure/PopulationType;" } : Jvm.MethodName) method_2_code (1 : Nat) (Option.some (Jvm.ClassFile.FieldType.object "com/example/stratafold/stratafold/measure/PopulationType")), Jvm.Cond.code ({ cls := "com/example/stratafold/stratafold/measure/Tally", name := "<init>", desc := "()V" } : Jvm.MethodName) prog_30_method_1_code (1 : Nat) (Option.none : Option Jvm.ClassFile.FieldType), Jvm.Cond.code ({ cls := "java/lang/Object", name := "<init>", desc := "()V" } : Jvm.MethodName) object_method_1_code (1 : Nat) (Option.none : Option Jvm.ClassFile.FieldType), Jvm.Cond.code ({ cls := "com/example/stratafold/stratafold/measure/PopulationType", name := "values", desc := "()[Lcom/example/stratafold/stratafold/measure/PopulationType;" } : Jvm.MethodName) prog_26_method_1_code (0 : Nat) (Option.some (Jvm.ClassFile.FieldType.array (Jvm.ClassFile.FieldType.object "com/example/stratafold/stratafold/measure/PopulationType"))), Jvm.Cond.code ({ cls := "java/util/ArrayList", name := "<init>", desc := "()V" } : Jvm.MethodName) jdk_38_method_2_code (1 : Nat) (Option.none : Option Jvm.ClassFile.FieldType), Jvm.Cond.code ({ cls := "java/util/AbstractList", name := "<init>", desc := "()V" } : Jvm.MethodName) jdk_39_method_1_code (1 : Nat) (Option.none : Option Jvm.ClassFile.FieldType), Jvm.Cond.code ({ cls := "java/util/AbstractCollection", name := "<init>", desc := "()V" } : Jvm.MethodName) jdk_22_method_1_code (1 : Nat) (Option.none : Option Jvm.ClassFile.FieldType), Jvm.Cond.code ({ cls := "com/example/stratafold/stratafold/measure/Tally", name := "add", desc := "(Lcom/example/stratafold/stratafold/measure/PopulationType;Z)V" } : Jvm.MethodName) prog_30_method_2_code (3 : Nat) (Option.none : Option Jvm.ClassFile.FieldType), Jvm.Cond.code ({ cls := "java/lang/Enum", name := "ordinal", desc := "()I" } : Jvm.MethodName) jdk_37_method_2_code (1 : Nat) (Option.some Jvm.ClassFile.FieldType.int), Jvm.Cond.code ({ cls := "com/example/stratafold/stratafold/measure/TallyAddPinLaw", name := "one", desc := "(Z)I" } : Jvm.MethodName) method_3_code (1 : Nat) (Option.some Jvm.ClassFile.FieldType.int), Jvm.Cond.code ({ cls := "com/example/stratafold/stratafold/measure/Tally", name := "count", desc := "(Lcom/example/stratafold/stratafold/measure/PopulationType;)I" } : Jvm.MethodName) prog_30_method_5_code (2 : Nat) (Option.some Jvm.ClassFile.FieldType.int)]
set_option maxRecDepth 65536 in
theorem codes_eq : words1.filter isCode = codes1 := rfl
theorem w_codes : ∀ c ∈ words1.filter isCode, c.before args0 about1 = true := by
  rw [codes_eq]
  intro c hc
  simp only [codes1, List.mem_cons, List.not_mem_nil, or_false] at hc
  rcases hc with rfl | rfl | rfl | rfl | rfl | rfl | rfl | rfl | rfl | rfl | rfl | rfl
  · exact w_c0
  · exact w_c1
  · exact w_c2
  · exact w_c3
  · exact w_c4
  · exact w_c5
  · exact w_c6
  · exact w_c7
  · exact w_c8
  · exact w_c9
  · exact w_c10
  · exact w_c11
set_option maxRecDepth 65536 in
theorem w_t1 : (words1.take 24).all (fun c => isCode c || c.before args0 about1) = true := by decide +kernel
set_option maxRecDepth 65536 in
theorem w_t2 : ((words1.drop 24).take 24).all (fun c => isCode c || c.before args0 about1) = true := by decide +kernel
set_option maxRecDepth 65536 in
theorem w_t3 : (((words1.drop 24).drop 24).take 24).all (fun c => isCode c || c.before args0 about1) = true := by decide +kernel
set_option maxRecDepth 65536 in
theorem w_t4 : ((((words1.drop 24).drop 24).drop 24).take 24).all (fun c => isCode c || c.before args0 about1) = true := by decide +kernel
set_option maxRecDepth 65536 in
theorem w_t5 : ((((words1.drop 24).drop 24).drop 24).drop 24).all (fun c => isCode c || c.before args0 about1) = true := by decide +kernel
theorem w_tables : (allAtoms (Jvm.Cond.code x code maxLocals ret :: tables_1)).before args0 about1 = true := by
  rw [allAtoms_all]
  show words1.all (fun c => c.before args0 about1) = true
  refine all_split ?_ w_codes
  rw [← List.take_append_drop 24 words1, List.all_append, w_t1, ← List.take_append_drop 24 (words1.drop 24), List.all_append, w_t2, ← List.take_append_drop 24 ((words1.drop 24).drop 24), List.all_append, w_t3, ← List.take_append_drop 24 (((words1.drop 24).drop 24).drop 24), List.all_append, w_t4, w_t5]
  rfl
set_option maxRecDepth 65536 in
theorem w_rest : rest_1_c.before args0 about1 = true := by decide +kernel
set_option maxRecDepth 65536 in
theorem w_case : (Jvm.Cond.and given_1 narrow_1).before args0 about1 = true := by decide +kernel
theorem w_applies : (headSpec (Jvm.Cond.code x code maxLocals ret :: tables_1) room_1).applies x e0.platform about1 = true :=
  (Spec.applies_iff w_frames).mpr ⟨w_running, w_runnable, w_alone, w_named, w_hears, w_ripe, w_room, w_tables⟩
theorem atStart : AtStart classFile x code maxLocals ret World_1 tables_1 room_1 Calls_1 rest_1 Pre_1 launch0 p0 e0 about1 theMethod args0 below0 :=
  ⟨lists_1, trivial, launch0.admits_env _ _ _, launch0.least_env, fairChoices_fair.cas, fairChoices_fair.clock, w_frames, w_args, w_heap, w_applies, trivial, w_rest, w_case⟩
end start1
theorem witness_1 : WitnessClaimed_1 := ⟨start1.p0, start1.e0, start1.about1, start1.theMethod, start1.args0, start1.below0, start1.atStart⟩
end Jvm.Pilot.@@N@@
