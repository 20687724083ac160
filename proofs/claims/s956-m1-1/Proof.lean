import JvmDerived
import JvmDerived.Pilot.@@N@@Statement
import JvmDerived.Pilot.@@N@@Code
set_option linter.unusedVariables false
set_option linter.unusedSimpArgs false
namespace Jvm.RoadKit
open Sem ClassFile Op Lib Jvm.Stand Jvm.Free Jvm.LawKit
section New
variable {p : Program} {l : Launch} {e : Env} {R : Room} {s : State} {m : MethodId} {args : Array Value} {below : List Frame} {meth : Method} {c : Code} {T : State} {locs : List Loc} {cells slots : Nat}
theorem retI (X : Stand p l e R s m args below meth c T locs cells slots) (hx : p.tables.exec = Jvm.exec) {pc : Nat} {Ls : Array Slot} {z : Int32} {rest : List Value} (hret : meth.sig.returnType = some .int) (hd : decode c.code pc = .ok (.ireturn, 1)) {fs : List Frame}
    (hl : ∀ (f : JFrame) (acts : List Action), f.method = m → f.locked = none → f.entered = [] → (doReturn e (T.setTop f) acts (some (.int z))).1 = T.setFrames fs) : Steps p.tables e below (T.setTop (mkF m pc Ls (.int z :: rest))) (T.setFrames fs) := by
  have hm' : T.vm.method? m = some meth := X.method'
  have hn : narrow .int (.int z) = .int z := rfl
  show Steps p.tables e below (T.setTop { method := m, pc := pc, locals := Ls, stack := _ :: rest, locked := none }) _
  jvm_step X.here [X.here.top, hx, hd, hm', hret, hn]
  first | (intro acts; rw [hl _ acts rfl rfl rfl]) | rw [hl _ _ rfl rfl rfl]
  exact Steps.refl _
end New
/-! the walk's own frame: a goal that is met by going on -/
section Own
variable {tb : Tables} {e : Env} {below : List Frame} {R : State → Outcome → Prop} {U U' T : State}
def own_G (tb : Tables) (e : Env) (below : List Frame) (R : State → Outcome → Prop) (U : State) : Prop := ∃ f o, Steps tb e below U f ∧ R f o
theorem own_pre {g g' : JFrame} (q : g = g') (h : own_G tb e below R (T.setTop g')) : ∃ f o, Steps tb e below (T.setTop g) f ∧ R f o := by rw [q]; exact h
theorem own_go (st : ∀ t, Steps tb e below U' t → Steps tb e below U t) (h : own_G tb e below R U') : own_G tb e below R U := by
  obtain ⟨f, o, h1, h2⟩ := h; exact ⟨f, o, st _ h1, h2⟩
theorem own_out (h : ∃ f o, Steps tb e below U f ∧ R f o) : own_G tb e below R U := h
end Own
section OwnFacts
variable {Z : State} {h h' : Heap} {a : Addr} {ws : List Addr} {C n d : String} {v : Value} {b : Bool}
def own_NS (h : Heap) (a : Addr) : Prop := ∃ c : Cell, h[a]? = some c ∧ c.vm.isStatics = false
theorem own_nsE (F : Exa Z h a C) : own_NS h a := by obtain ⟨c, k, h1, -, -, h4, -⟩ := F; exact ⟨c, h1, h4⟩
theorem own_nsF (F : Fld Z h a C n d v) : own_NS h a := by obtain ⟨c, _, _, _, _, h1, -, -, -, h5, -⟩ := F; exact ⟨c, h1, h5⟩
theorem own_nsV {k : ClassId} {ty : FieldType} {z : Int32} {vs : List Value} {dv : Value} (F : Arv Z h a k ty z vs dv) : own_NS h a := by obtain ⟨c, A, -⟩ := F; exact ⟨c, A.1, A.plain⟩
theorem own_staK (F : Sta Z h C n d v) (K : Keep h h' ws) (q : ∀ x ∈ ws, own_NS h x) : Sta Z h' C n d v := by
  obtain ⟨cf, i, k, f, st, cell, h1, h2, h3, h4, h5, h6, h7⟩ := F
  refine ⟨cf, i, k, f, st, cell, h1, h2, h3, h4, K.2.1 st cell h5 (fun hm => ?_), h6, h7⟩
  obtain ⟨c, e1, e2⟩ := q st hm
  cases h5.symm.trans e1
  rw [e2] at h6; cases h6
theorem own_insK (F : Ins Z h a C b) (K : Keep h h' ws) : Ins Z h' a C b := by
  obtain ⟨cell, cT, h1, h2, h3⟩ := F
  obtain ⟨c', e1, e2, e3, -⟩ := K.2.2 a cell h1
  exact ⟨c', cT, e1, h2, by rw [e2, e3]; exact h3⟩
theorem own_selP {s : State} {args : Array Value} {y : MethodName} {k : Nat} (wi : (Cond.instantiable y.cls k).before args s = true) (wp : (Cond.privateMethod y).before args s = true) (hi : (Cond.instanceMethod y).before args s = true) (hy : y.cls ≠ "java/lang/invoke/MethodHandle" ∧ y.cls ≠ "java/lang/invoke/VarHandle") : (Cond.selects y.cls y y).before args s = true := by
  obtain ⟨c, k, h1, h2, -, h4, -⟩ := Cond.instantiable_spec wi
  exact selects_self_of_private h1 h2 (by simp only [Bool.or_eq_false_iff] at h4; exact h4.1) (Cond.privateMethod_at wp) hi hy
theorem own_xnJ (x : Int64) : (x ^^^ (-1 : Int64)).toInt = -1 - x.toInt := by
  have h : x ^^^ (-1 : Int64) = ~~~ x := by
    rw [← Int64.toBitVec_inj]; simp
  rw [h]
  show (~~~ x.toBitVec).toInt = -1 - x.toBitVec.toInt
  rw [BitVec.toInt_not]
  have h1 := x.toBitVec.isLt
  rw [BitVec.toInt_eq_toNat_bmod]
  simp only [Int.bmod]
  split <;> split <;> omega
theorem own_insLt (F : Ins Z h a C b) : a < h.size := by obtain ⟨_, _, h1, -⟩ := F; exact (Array.getElem?_eq_some_iff.mp h1).1
variable {args : Array Value} {t u : Term} {x : Addr}
theorem own_fldI {k : Int32} (ev : t.eval args Z none [] Z = some (.ref x)) (hh : (Cond.eq (.field t C n d) (.int k)).value args Z none Z [] = some true) : Fld Z Z.heap x C n d (.int k) := by
  refine Fld.start ?_
  obtain ⟨y, w, e1, e2, k1, -⟩ := cmp_v (Or.inl hh)
  cases (Term.int_eval k).symm.trans e2
  rw [fld_at ev] at e1
  cases y <;> simp [Kin, Value.isRef] at k1
  rename_i q
  have e3 : (Term.field t C n d).eval args Z none [] Z = some (.int q) := by rw [fld_at ev]; exact e1
  simp [Cond.value, e3, Term.int_eval] at hh
  rw [e1, hh]
theorem own_fldJ {k : Int64} (ev : t.eval args Z none [] Z = some (.ref x)) (hh : (Cond.eq (.field t C n d) (.long k)).value args Z none Z [] = some true) : Fld Z Z.heap x C n d (.long k) := by
  refine Fld.start ?_
  obtain ⟨y, w, e1, e2, k1, -⟩ := cmp_v (Or.inl hh)
  cases (long_at k).symm.trans e2
  rw [fld_at ev] at e1
  cases y <;> simp [Kin, Value.isRef] at k1
  rename_i q
  have e3 : (Term.field t C n d).eval args Z none [] Z = some (.long q) := by rw [fld_at ev]; exact e1
  have e4 := gotT (eq_L e3 (long_at k)) hh
  rw [e1, e4]
theorem own_fldR {y : Addr} (ev : t.eval args Z none [] Z = some (.ref x)) (e2 : (Term.field t C n d).eval args Z none [] Z = some (.ref y)) : Fld Z Z.heap x C n d (.ref y) := Fld.start (by rw [← fld_at ev]; exact e2)
theorem own_len {cl : Cell} {ty : FieldType} {k : Int32} (ev : t.eval args Z none [] Z = some (.ref x)) (A : Arr Z Z.heap x cl ty) (hh : (Cond.eq (.length t) (.int k)).value args Z none Z [] = some true) : cl.slots.size < 2 ^ 31 ∧ cl.slots.size.toInt32 = k := by
  obtain ⟨y, w, e1, e2, k1, -⟩ := cmp_v (Or.inl hh)
  cases (Term.int_eval k).symm.trans e2
  have hA := A.fin (Vm.Alike.refl _)
  have hl : cl.slots.size < 2 ^ 31 := by
    rcases Nat.lt_or_ge cl.slots.size (2 ^ 31) with q | q
    · exact q
    · simp [Term.eval, ev, hA, Nat.not_lt.mpr q] at e1
  refine ⟨hl, ?_⟩
  have e3 := len_f ev hA hl
  simp [Cond.value, e3, Term.int_eval] at hh
  exact hh
theorem own_elI {cl : Cell} {ty : FieldType} {i k : Int32} (ev : t.eval args Z none [] Z = some (.ref x)) (A : Arr Z Z.heap x cl ty) (hh : (Cond.eq (.elem t (.int i)) (.int k)).value args Z none Z [] = some true) : cl.slots[i.toNatClampNeg]? = some (.int k) := by
  obtain ⟨y, w, e1, e2, k1, -⟩ := cmp_v (Or.inl hh)
  cases (Term.int_eval k).symm.trans e2
  cases y <;> simp [Kin, Value.isRef] at k1
  rename_i q
  simp [Cond.value, e1, Term.int_eval] at hh
  rw [← hh]; exact (elem_in e1 ev (Term.int_eval i) A.1).2
theorem own_elR {cl : Cell} {ty : FieldType} {i : Int32} {y : Addr} (ev : t.eval args Z none [] Z = some (.ref x)) (eu : u.eval args Z none [] Z = some (.ref y)) (A : Arr Z Z.heap x cl ty) (hh : (Cond.eq (.elem t (.int i)) u).value args Z none Z [] = some true) : cl.slots[i.toNatClampNeg]? = some (.ref y) := by
  obtain ⟨p, w, e1, e3, k1, k2⟩ := cmp_v (Or.inl hh)
  cases eu.symm.trans e3
  have k3 := gotT (eq_R e1 eu k2.2 rfl) hh
  rw [← k3]; exact (elem_in e1 ev (Term.int_eval i) A.1).2
theorem own_eqR {y : Addr} (e2 : u.eval args Z none [] Z = some (.ref y)) (hh : (Cond.eq t u).value args Z none Z [] = some true) : t.eval args Z none [] Z = some (.ref y) := by
  obtain ⟨p, w, e1, e3, k1, k2⟩ := cmp_v (Or.inl hh)
  cases e2.symm.trans e3
  have k3 := gotT (eq_R e1 e2 k2.2 rfl) hh
  rw [e1, k3]
end OwnFacts
/-- the cache of Longs: old objects, each with its number -/
def own_LC (Z : State) (h : Heap) (a : Addr) (n : Nat) : Prop := ∃ cl : Cell, Arr Z h a cl (.object "java/lang/Long") ∧ cl.slots.size = (256 : Int32).toNatClampNeg ∧ a < n ∧ ∀ j : Int32, ¬ j < 0 → j < 256 → ∃ b : Addr, cl.slots[j.toNatClampNeg]? = some (.ref b) ∧ b < n ∧ Exa Z h b "java/lang/Long" ∧ Fld Z h b "java/lang/Long" "value" "J" (.long (j - 128).toInt64)
theorem own_LC.keep {Z : State} {h h' : Heap} {a : Addr} {n : Nat} {ws : List Addr} (F : own_LC Z h a n) (K : Keep h h' ws) (q : ∀ x ∈ ws, n ≤ x) : own_LC Z h' a n := by
  obtain ⟨cl, A, S, ha, M⟩ := F
  refine ⟨cl, ⟨K.2.1 a cl A.1 (fun hm => absurd ha (Nat.not_lt.mpr (q a hm))), A.2⟩, S, ha, fun j h0 h1 => ?_⟩
  obtain ⟨b, h2, h3, E, F⟩ := M j h0 h1
  exact ⟨b, h2, h3, E.keep K, F.keep K (fun hm => absurd h3 (Nat.not_lt.mpr (q b hm)))⟩
theorem own_LC.ext {Z : State} {h h' : Heap} {a : Addr} {n : Nat} (F : own_LC Z h a n) (E : Ext h h') : own_LC Z h' a n := F.keep ((Keep.refl h []).ext E) all0
theorem own_lcq {q : Int64} (h1 : ¬ q < (-128 : Int64)) (h2 : ¬ (127 : Int64) < q) : (q.toInt32 + (128 : Int32) - 128).toInt64 = q := by
  have a1 : ¬ q.toInt < -128 := fun e => h1 (Int64.lt_iff_toInt_lt.mpr e)
  have a2 : ¬ 127 < q.toInt := fun e => h2 (Int64.lt_iff_toInt_lt.mpr e)
  refine Int64.toInt_inj.mp ?_
  rw [c_i2l]
  have b1 := c_isub (q.toInt32 + (128 : Int32)) 128; have b2 := c_iadd q.toInt32 128; have b3 := c_l2i q
  have e1 : (128 : Int32).toInt = 128 := by decide
  have r1 := rng32 q.toInt32; have r2 := rng32 (q.toInt32 + (128 : Int32)); have r3 := rng32 (q.toInt32 + (128 : Int32) - 128)
  omega
section OwnLong
open Jvm.Free.XT
variable {x y : Int64}
theorem own_ll_eq_t (h : x = y) : ifCond.holds .eq (lcmpW x y) = true := ll_eq_t h
theorem own_ll_eq_f (h : ¬ x = y) : ifCond.holds .eq (lcmpW x y) = false := ll_eq_f h
theorem own_ll_ne_t (h : ¬ x = y) : ifCond.holds .ne (lcmpW x y) = true := ll_ne_t h
theorem own_ll_ne_f (h : x = y) : ifCond.holds .ne (lcmpW x y) = false := ll_ne_f h
theorem own_ll_lt_t (h : x < y) : ifCond.holds .lt (lcmpW x y) = true := ll_lt_t h
theorem own_ll_lt_f (h : ¬ x < y) : ifCond.holds .lt (lcmpW x y) = false := ll_lt_f h
theorem own_ll_ge_t (h : ¬ x < y) : ifCond.holds .ge (lcmpW x y) = true := ll_ge_t h
theorem own_ll_ge_f (h : x < y) : ifCond.holds .ge (lcmpW x y) = false := ll_ge_f h
theorem own_ll_gt_t (h : y < x) : ifCond.holds .gt (lcmpW x y) = true := ll_gt_t h
theorem own_ll_gt_f (h : ¬ y < x) : ifCond.holds .gt (lcmpW x y) = false := ll_gt_f h
theorem own_ll_le_t (h : ¬ y < x) : ifCond.holds .le (lcmpW x y) = true := ll_le_t h
theorem own_ll_le_f (h : y < x) : ifCond.holds .le (lcmpW x y) = false := ll_le_f h
end OwnLong
section OwnSteps
variable {p : Program} {l : Launch} {e : Env} {R : Room} {s : State} {m : MethodId} {args : Array Value} {below : List Frame} {meth : Method} {c : Code} {T : State} {locs : List Loc} {cells slots : Nat} {bytes : ByteArray} {pc : Nat} {L : Array Slot} {S : List Value} {t : State}

theorem oiload (X : Stand p l e R s m args below meth c T locs cells slots) (hx : p.tables.exec = Jvm.exec) (hby : c.code = bytes) {k : Nat} {v : Int32} (hd : decode bytes pc = .ok (.iload k, 2)) (hl : L[k]? = some (.val (.int v))) (hr : Steps p.tables e below (T.setTop (mkF m (pc + 2) L (.int v :: S))) t) : Steps p.tables e below (T.setTop (mkF m pc L S)) t := XS.iload X.here hx rfl (hb hby hd) hl hr
theorem oiloadN (X : Stand p l e R s m args below meth c T locs cells slots) (hx : p.tables.exec = Jvm.exec) (hby : c.code = bytes) {k : Fin 4} {v : Int32} (hd : decode bytes pc = .ok (.iload_n k, 1)) (hl : L[k.val]? = some (.val (.int v))) (hr : Steps p.tables e below (T.setTop (mkF m (pc + 1) L (.int v :: S))) t) : Steps p.tables e below (T.setTop (mkF m pc L S)) t := XS.iloadN X.here hx rfl (hb hby hd) hl hr
theorem olload (X : Stand p l e R s m args below meth c T locs cells slots) (hx : p.tables.exec = Jvm.exec) (hby : c.code = bytes) {k : Nat} {v : Int64} (hd : decode bytes pc = .ok (.lload k, 2)) (hl : L[k]? = some (.val (.long v))) (hr : Steps p.tables e below (T.setTop (mkF m (pc + 2) L (.long v :: S))) t) : Steps p.tables e below (T.setTop (mkF m pc L S)) t := XS.lload X.here hx rfl (hb hby hd) hl hr
theorem olloadN (X : Stand p l e R s m args below meth c T locs cells slots) (hx : p.tables.exec = Jvm.exec) (hby : c.code = bytes) {k : Fin 4} {v : Int64} (hd : decode bytes pc = .ok (.lload_n k, 1)) (hl : L[k.val]? = some (.val (.long v))) (hr : Steps p.tables e below (T.setTop (mkF m (pc + 1) L (.long v :: S))) t) : Steps p.tables e below (T.setTop (mkF m pc L S)) t := XS.lloadN X.here hx rfl (hb hby hd) hl hr
theorem oaload (X : Stand p l e R s m args below meth c T locs cells slots) (hx : p.tables.exec = Jvm.exec) (hby : c.code = bytes) {k : Nat} {v : Value} (hd : decode bytes pc = .ok (.aload k, 2)) (hl : L[k]? = some (.val v)) (hv : v.isRef = true) (hr : Steps p.tables e below (T.setTop (mkF m (pc + 2) L (v :: S))) t) : Steps p.tables e below (T.setTop (mkF m pc L S)) t := XS.aload X.here hx rfl (hb hby hd) hl hv hr
theorem oaloadN (X : Stand p l e R s m args below meth c T locs cells slots) (hx : p.tables.exec = Jvm.exec) (hby : c.code = bytes) {k : Fin 4} {v : Value} (hd : decode bytes pc = .ok (.aload_n k, 1)) (hl : L[k.val]? = some (.val v)) (hv : v.isRef = true) (hr : Steps p.tables e below (T.setTop (mkF m (pc + 1) L (v :: S))) t) : Steps p.tables e below (T.setTop (mkF m pc L S)) t := XS.aloadN X.here hx rfl (hb hby hd) hl hv hr
theorem oistore (X : Stand p l e R s m args below meth c T locs cells slots) (hx : p.tables.exec = Jvm.exec) (hby : c.code = bytes) {k : Nat} {x : Int32} (hd : decode bytes pc = .ok (.istore k, 2)) (l' : Array Slot) (hl : storeLocals L k (.int x) = some l') (hr : Steps p.tables e below (T.setTop (mkF m (pc + 2) l' S)) t) : Steps p.tables e below (T.setTop (mkF m pc L (.int x :: S))) t := XS.istore X.here hx rfl (hb hby hd) rfl hl hr
theorem oistoreN (X : Stand p l e R s m args below meth c T locs cells slots) (hx : p.tables.exec = Jvm.exec) (hby : c.code = bytes) {k : Fin 4} {x : Int32} (hd : decode bytes pc = .ok (.istore_n k, 1)) (l' : Array Slot) (hl : storeLocals L k.val (.int x) = some l') (hr : Steps p.tables e below (T.setTop (mkF m (pc + 1) l' S)) t) : Steps p.tables e below (T.setTop (mkF m pc L (.int x :: S))) t := XS.istoreN X.here hx rfl (hb hby hd) rfl hl hr
theorem olstore (X : Stand p l e R s m args below meth c T locs cells slots) (hx : p.tables.exec = Jvm.exec) (hby : c.code = bytes) {k : Nat} {x : Int64} (hd : decode bytes pc = .ok (.lstore k, 2)) (l' : Array Slot) (hl : storeLocals L k (.long x) = some l') (hr : Steps p.tables e below (T.setTop (mkF m (pc + 2) l' S)) t) : Steps p.tables e below (T.setTop (mkF m pc L (.long x :: S))) t := XS.lstore X.here hx rfl (hb hby hd) rfl hl hr
theorem olstoreN (X : Stand p l e R s m args below meth c T locs cells slots) (hx : p.tables.exec = Jvm.exec) (hby : c.code = bytes) {k : Fin 4} {x : Int64} (hd : decode bytes pc = .ok (.lstore_n k, 1)) (l' : Array Slot) (hl : storeLocals L k.val (.long x) = some l') (hr : Steps p.tables e below (T.setTop (mkF m (pc + 1) l' S)) t) : Steps p.tables e below (T.setTop (mkF m pc L (.long x :: S))) t := XS.lstoreN X.here hx rfl (hb hby hd) rfl hl hr
theorem oastore (X : Stand p l e R s m args below meth c T locs cells slots) (hx : p.tables.exec = Jvm.exec) (hby : c.code = bytes) {k : Nat} {x : Value} (hd : decode bytes pc = .ok (.astore k, 2)) (l' : Array Slot) (hv : x.isRef = true) (hl : storeLocals L k x = some l') (hr : Steps p.tables e below (T.setTop (mkF m (pc + 2) l' S)) t) : Steps p.tables e below (T.setTop (mkF m pc L (x :: S))) t := XS.astore X.here hx rfl (hb hby hd) rfl hv hl hr
theorem oastoreN (X : Stand p l e R s m args below meth c T locs cells slots) (hx : p.tables.exec = Jvm.exec) (hby : c.code = bytes) {k : Fin 4} {x : Value} (hd : decode bytes pc = .ok (.astore_n k, 1)) (l' : Array Slot) (hv : x.isRef = true) (hl : storeLocals L k.val x = some l') (hr : Steps p.tables e below (T.setTop (mkF m (pc + 1) l' S)) t) : Steps p.tables e below (T.setTop (mkF m pc L (x :: S))) t := XS.astoreN X.here hx rfl (hb hby hd) rfl hv hl hr
theorem oiconst (X : Stand p l e R s m args below meth c T locs cells slots) (hx : p.tables.exec = Jvm.exec) (hby : c.code = bytes) {i : Int} (hd : decode bytes pc = .ok (.iconst i, 1)) (hr : Steps p.tables e below (T.setTop (mkF m (pc + 1) L (.int (Int32.ofInt i) :: S))) t) : Steps p.tables e below (T.setTop (mkF m pc L S)) t := XS.iconst X.here hx rfl (hb hby hd) hr
theorem obipush (X : Stand p l e R s m args below meth c T locs cells slots) (hx : p.tables.exec = Jvm.exec) (hby : c.code = bytes) {i : Int} (hd : decode bytes pc = .ok (.bipush i, 2)) (hr : Steps p.tables e below (T.setTop (mkF m (pc + 2) L (.int (Int8.ofInt i).toInt32 :: S))) t) : Steps p.tables e below (T.setTop (mkF m pc L S)) t := XS.bipush X.here hx rfl (hb hby hd) hr
theorem osipush (X : Stand p l e R s m args below meth c T locs cells slots) (hx : p.tables.exec = Jvm.exec) (hby : c.code = bytes) {i : Int} (hd : decode bytes pc = .ok (.sipush i, 3)) (hr : Steps p.tables e below (T.setTop (mkF m (pc + 3) L (.int (Int16.ofInt i).toInt32 :: S))) t) : Steps p.tables e below (T.setTop (mkF m pc L S)) t := XS.sipush X.here hx rfl (hb hby hd) hr
theorem olconst (X : Stand p l e R s m args below meth c T locs cells slots) (hx : p.tables.exec = Jvm.exec) (hby : c.code = bytes) {k : Fin 2} (hd : decode bytes pc = .ok (.lconst k, 1)) (hr : Steps p.tables e below (T.setTop (mkF m (pc + 1) L (.long (Int64.ofNat k) :: S))) t) : Steps p.tables e below (T.setTop (mkF m pc L S)) t := XS.lconst X.here hx rfl (hb hby hd) hr
theorem onull (X : Stand p l e R s m args below meth c T locs cells slots) (hx : p.tables.exec = Jvm.exec) (hby : c.code = bytes) (hd : decode bytes pc = .ok (.aconst_null, 1)) (hr : Steps p.tables e below (T.setTop (mkF m (pc + 1) L (.null :: S))) t) : Steps p.tables e below (T.setTop (mkF m pc L S)) t := XS.aconstNull X.here hx rfl (hb hby hd) hr
theorem oiadd (X : Stand p l e R s m args below meth c T locs cells slots) (hx : p.tables.exec = Jvm.exec) (hby : c.code = bytes) {x y : Int32} (hd : decode bytes pc = .ok (.iadd, 1)) (hr : Steps p.tables e below (T.setTop (mkF m (pc + 1) L (.int (x + y) :: S))) t) : Steps p.tables e below (T.setTop (mkF m pc L (.int y :: .int x :: S))) t := XS.iadd X.here hx rfl (hb hby hd) rfl hr
theorem oladd (X : Stand p l e R s m args below meth c T locs cells slots) (hx : p.tables.exec = Jvm.exec) (hby : c.code = bytes) {x y : Int64} (hd : decode bytes pc = .ok (.ladd, 1)) (hr : Steps p.tables e below (T.setTop (mkF m (pc + 1) L (.long (x + y) :: S))) t) : Steps p.tables e below (T.setTop (mkF m pc L (.long y :: .long x :: S))) t := XS.ladd X.here hx rfl (hb hby hd) rfl hr
theorem oisub (X : Stand p l e R s m args below meth c T locs cells slots) (hx : p.tables.exec = Jvm.exec) (hby : c.code = bytes) {x y : Int32} (hd : decode bytes pc = .ok (.isub, 1)) (hr : Steps p.tables e below (T.setTop (mkF m (pc + 1) L (.int (x - y) :: S))) t) : Steps p.tables e below (T.setTop (mkF m pc L (.int y :: .int x :: S))) t := XS.isub X.here hx rfl (hb hby hd) rfl hr
theorem olsub (X : Stand p l e R s m args below meth c T locs cells slots) (hx : p.tables.exec = Jvm.exec) (hby : c.code = bytes) {x y : Int64} (hd : decode bytes pc = .ok (.lsub, 1)) (hr : Steps p.tables e below (T.setTop (mkF m (pc + 1) L (.long (x - y) :: S))) t) : Steps p.tables e below (T.setTop (mkF m pc L (.long y :: .long x :: S))) t := XS.lsub X.here hx rfl (hb hby hd) rfl hr
theorem oimul (X : Stand p l e R s m args below meth c T locs cells slots) (hx : p.tables.exec = Jvm.exec) (hby : c.code = bytes) {x y : Int32} (hd : decode bytes pc = .ok (.imul, 1)) (hr : Steps p.tables e below (T.setTop (mkF m (pc + 1) L (.int (x * y) :: S))) t) : Steps p.tables e below (T.setTop (mkF m pc L (.int y :: .int x :: S))) t := XS.imul X.here hx rfl (hb hby hd) rfl hr
theorem olmul (X : Stand p l e R s m args below meth c T locs cells slots) (hx : p.tables.exec = Jvm.exec) (hby : c.code = bytes) {x y : Int64} (hd : decode bytes pc = .ok (.lmul, 1)) (hr : Steps p.tables e below (T.setTop (mkF m (pc + 1) L (.long (x * y) :: S))) t) : Steps p.tables e below (T.setTop (mkF m pc L (.long y :: .long x :: S))) t := XS.lmul X.here hx rfl (hb hby hd) rfl hr
theorem oiand (X : Stand p l e R s m args below meth c T locs cells slots) (hx : p.tables.exec = Jvm.exec) (hby : c.code = bytes) {x y : Int32} (hd : decode bytes pc = .ok (.iand, 1)) (hr : Steps p.tables e below (T.setTop (mkF m (pc + 1) L (.int (x &&& y) :: S))) t) : Steps p.tables e below (T.setTop (mkF m pc L (.int y :: .int x :: S))) t := XS.iand X.here hx rfl (hb hby hd) rfl hr
theorem oland (X : Stand p l e R s m args below meth c T locs cells slots) (hx : p.tables.exec = Jvm.exec) (hby : c.code = bytes) {x y : Int64} (hd : decode bytes pc = .ok (.land, 1)) (hr : Steps p.tables e below (T.setTop (mkF m (pc + 1) L (.long (x &&& y) :: S))) t) : Steps p.tables e below (T.setTop (mkF m pc L (.long y :: .long x :: S))) t := XS.land X.here hx rfl (hb hby hd) rfl hr
theorem oior (X : Stand p l e R s m args below meth c T locs cells slots) (hx : p.tables.exec = Jvm.exec) (hby : c.code = bytes) {x y : Int32} (hd : decode bytes pc = .ok (.ior, 1)) (hr : Steps p.tables e below (T.setTop (mkF m (pc + 1) L (.int (x ||| y) :: S))) t) : Steps p.tables e below (T.setTop (mkF m pc L (.int y :: .int x :: S))) t := XS.ior X.here hx rfl (hb hby hd) rfl hr
theorem olor (X : Stand p l e R s m args below meth c T locs cells slots) (hx : p.tables.exec = Jvm.exec) (hby : c.code = bytes) {x y : Int64} (hd : decode bytes pc = .ok (.lor, 1)) (hr : Steps p.tables e below (T.setTop (mkF m (pc + 1) L (.long (x ||| y) :: S))) t) : Steps p.tables e below (T.setTop (mkF m pc L (.long y :: .long x :: S))) t := XS.lor X.here hx rfl (hb hby hd) rfl hr
theorem oixor (X : Stand p l e R s m args below meth c T locs cells slots) (hx : p.tables.exec = Jvm.exec) (hby : c.code = bytes) {x y : Int32} (hd : decode bytes pc = .ok (.ixor, 1)) (hr : Steps p.tables e below (T.setTop (mkF m (pc + 1) L (.int (x ^^^ y) :: S))) t) : Steps p.tables e below (T.setTop (mkF m pc L (.int y :: .int x :: S))) t := XS.ixor X.here hx rfl (hb hby hd) rfl hr
theorem olxor (X : Stand p l e R s m args below meth c T locs cells slots) (hx : p.tables.exec = Jvm.exec) (hby : c.code = bytes) {x y : Int64} (hd : decode bytes pc = .ok (.lxor, 1)) (hr : Steps p.tables e below (T.setTop (mkF m (pc + 1) L (.long (x ^^^ y) :: S))) t) : Steps p.tables e below (T.setTop (mkF m pc L (.long y :: .long x :: S))) t := XS.lxor X.here hx rfl (hb hby hd) rfl hr
theorem oishl (X : Stand p l e R s m args below meth c T locs cells slots) (hx : p.tables.exec = Jvm.exec) (hby : c.code = bytes) {x y : Int32} (hd : decode bytes pc = .ok (.ishl, 1)) (hr : Steps p.tables e below (T.setTop (mkF m (pc + 1) L (.int (x <<< (y &&& 31)) :: S))) t) : Steps p.tables e below (T.setTop (mkF m pc L (.int y :: .int x :: S))) t := XS.ishl X.here hx rfl (hb hby hd) rfl hr
theorem oishr (X : Stand p l e R s m args below meth c T locs cells slots) (hx : p.tables.exec = Jvm.exec) (hby : c.code = bytes) {x y : Int32} (hd : decode bytes pc = .ok (.ishr, 1)) (hr : Steps p.tables e below (T.setTop (mkF m (pc + 1) L (.int (x >>> (y &&& 31)) :: S))) t) : Steps p.tables e below (T.setTop (mkF m pc L (.int y :: .int x :: S))) t := XS.ishr X.here hx rfl (hb hby hd) rfl hr
theorem oiushr (X : Stand p l e R s m args below meth c T locs cells slots) (hx : p.tables.exec = Jvm.exec) (hby : c.code = bytes) {x y : Int32} (hd : decode bytes pc = .ok (.iushr, 1)) (hr : Steps p.tables e below (T.setTop (mkF m (pc + 1) L (.int ((x.toUInt32 >>> (y &&& 31).toUInt32).toInt32) :: S))) t) : Steps p.tables e below (T.setTop (mkF m pc L (.int y :: .int x :: S))) t := XS.iushr X.here hx rfl (hb hby hd) rfl hr
theorem olshl (X : Stand p l e R s m args below meth c T locs cells slots) (hx : p.tables.exec = Jvm.exec) (hby : c.code = bytes) {x : Int64} {y : Int32} (hd : decode bytes pc = .ok (.lshl, 1)) (hr : Steps p.tables e below (T.setTop (mkF m (pc + 1) L (.long (x <<< (y &&& 0x3f).toInt64) :: S))) t) : Steps p.tables e below (T.setTop (mkF m pc L (.int y :: .long x :: S))) t := XS.lshl X.here hx rfl (hb hby hd) rfl hr
theorem olshr (X : Stand p l e R s m args below meth c T locs cells slots) (hx : p.tables.exec = Jvm.exec) (hby : c.code = bytes) {x : Int64} {y : Int32} (hd : decode bytes pc = .ok (.lshr, 1)) (hr : Steps p.tables e below (T.setTop (mkF m (pc + 1) L (.long (x >>> (y &&& 0x3f).toInt64) :: S))) t) : Steps p.tables e below (T.setTop (mkF m pc L (.int y :: .long x :: S))) t := XS.lshr X.here hx rfl (hb hby hd) rfl hr
theorem olushr (X : Stand p l e R s m args below meth c T locs cells slots) (hx : p.tables.exec = Jvm.exec) (hby : c.code = bytes) {x : Int64} {y : Int32} (hd : decode bytes pc = .ok (.lushr, 1)) (hr : Steps p.tables e below (T.setTop (mkF m (pc + 1) L (.long ((x.toUInt64 >>> (y &&& 0x3f).toInt64.toUInt64).toInt64) :: S))) t) : Steps p.tables e below (T.setTop (mkF m pc L (.int y :: .long x :: S))) t := XS.lushr X.here hx rfl (hb hby hd) rfl hr
theorem oineg (X : Stand p l e R s m args below meth c T locs cells slots) (hx : p.tables.exec = Jvm.exec) (hby : c.code = bytes) {x : Int32} (hd : decode bytes pc = .ok (.ineg, 1)) (hr : Steps p.tables e below (T.setTop (mkF m (pc + 1) L ((.int (-x)) :: S))) t) : Steps p.tables e below (T.setTop (mkF m pc L (.int x :: S))) t := XS.ineg X.here hx rfl (hb hby hd) rfl hr
theorem olneg (X : Stand p l e R s m args below meth c T locs cells slots) (hx : p.tables.exec = Jvm.exec) (hby : c.code = bytes) {x : Int64} (hd : decode bytes pc = .ok (.lneg, 1)) (hr : Steps p.tables e below (T.setTop (mkF m (pc + 1) L ((.long (-x)) :: S))) t) : Steps p.tables e below (T.setTop (mkF m pc L (.long x :: S))) t := XS.lneg X.here hx rfl (hb hby hd) rfl hr
theorem oi2l (X : Stand p l e R s m args below meth c T locs cells slots) (hx : p.tables.exec = Jvm.exec) (hby : c.code = bytes) {x : Int32} (hd : decode bytes pc = .ok (.i2l, 1)) (hr : Steps p.tables e below (T.setTop (mkF m (pc + 1) L ((.long (x.toInt64)) :: S))) t) : Steps p.tables e below (T.setTop (mkF m pc L (.int x :: S))) t := XS.i2l X.here hx rfl (hb hby hd) rfl hr
theorem ol2i (X : Stand p l e R s m args below meth c T locs cells slots) (hx : p.tables.exec = Jvm.exec) (hby : c.code = bytes) {x : Int64} (hd : decode bytes pc = .ok (.l2i, 1)) (hr : Steps p.tables e below (T.setTop (mkF m (pc + 1) L ((.int (x.toInt32)) :: S))) t) : Steps p.tables e below (T.setTop (mkF m pc L (.long x :: S))) t := XS.l2i X.here hx rfl (hb hby hd) rfl hr
theorem oi2b (X : Stand p l e R s m args below meth c T locs cells slots) (hx : p.tables.exec = Jvm.exec) (hby : c.code = bytes) {x : Int32} (hd : decode bytes pc = .ok (.i2b, 1)) (hr : Steps p.tables e below (T.setTop (mkF m (pc + 1) L ((.int (x.toInt8.toInt32)) :: S))) t) : Steps p.tables e below (T.setTop (mkF m pc L (.int x :: S))) t := XS.i2b X.here hx rfl (hb hby hd) rfl hr
theorem oi2s (X : Stand p l e R s m args below meth c T locs cells slots) (hx : p.tables.exec = Jvm.exec) (hby : c.code = bytes) {x : Int32} (hd : decode bytes pc = .ok (.i2s, 1)) (hr : Steps p.tables e below (T.setTop (mkF m (pc + 1) L ((.int (x.toInt16.toInt32)) :: S))) t) : Steps p.tables e below (T.setTop (mkF m pc L (.int x :: S))) t := XS.i2s X.here hx rfl (hb hby hd) rfl hr
theorem oi2c (X : Stand p l e R s m args below meth c T locs cells slots) (hx : p.tables.exec = Jvm.exec) (hby : c.code = bytes) {x : Int32} (hd : decode bytes pc = .ok (.i2c, 1)) (hr : Steps p.tables e below (T.setTop (mkF m (pc + 1) L ((.int (x.toUInt32.toUInt16.toUInt32.toInt32)) :: S))) t) : Steps p.tables e below (T.setTop (mkF m pc L (.int x :: S))) t := XS.i2c X.here hx rfl (hb hby hd) rfl hr
theorem oirem (X : Stand p l e R s m args below meth c T locs cells slots) (hx : p.tables.exec = Jvm.exec) (hby : c.code = bytes) {x y : Int32} (hd : decode bytes pc = .ok (.irem, 1)) (hy : y ≠ 0) (hr : Steps p.tables e below (T.setTop (mkF m (pc + 1) L (.int (x % y) :: S))) t) : Steps p.tables e below (T.setTop (mkF m pc L (.int y :: .int x :: S))) t := iremM X hx rfl (hb hby hd) rfl hy hr
theorem oidiv (X : Stand p l e R s m args below meth c T locs cells slots) (hx : p.tables.exec = Jvm.exec) (hby : c.code = bytes) {x y : Int32} (hd : decode bytes pc = .ok (.idiv, 1)) (hy : y ≠ 0) (hr : Steps p.tables e below (T.setTop (mkF m (pc + 1) L (.int (x / y) :: S))) t) : Steps p.tables e below (T.setTop (mkF m pc L (.int y :: .int x :: S))) t := XS.idiv X.here hx rfl (hb hby hd) rfl hy hr
theorem oldiv (X : Stand p l e R s m args below meth c T locs cells slots) (hx : p.tables.exec = Jvm.exec) (hby : c.code = bytes) {x y : Int64} (hd : decode bytes pc = .ok (.ldiv, 1)) (hy : y ≠ 0) (hr : Steps p.tables e below (T.setTop (mkF m (pc + 1) L (.long (x / y) :: S))) t) : Steps p.tables e below (T.setTop (mkF m pc L (.long y :: .long x :: S))) t := XS.ldiv X.here hx rfl (hb hby hd) rfl hy hr
theorem olrem (X : Stand p l e R s m args below meth c T locs cells slots) (hx : p.tables.exec = Jvm.exec) (hby : c.code = bytes) {x y : Int64} (hd : decode bytes pc = .ok (.lrem, 1)) (hy : y ≠ 0) (hr : Steps p.tables e below (T.setTop (mkF m (pc + 1) L (.long (x - (x / y) * y) :: S))) t) : Steps p.tables e below (T.setTop (mkF m pc L (.long y :: .long x :: S))) t := XS.lrem X.here hx rfl (hb hby hd) rfl hy hr
theorem olcmp (X : Stand p l e R s m args below meth c T locs cells slots) (hx : p.tables.exec = Jvm.exec) (hby : c.code = bytes) {x y : Int64} (hd : decode bytes pc = .ok (.lcmp, 1)) (hr : Steps p.tables e below (T.setTop (mkF m (pc + 1) L (.int (lcmpW x y) :: S))) t) : Steps p.tables e below (T.setTop (mkF m pc L (.long y :: .long x :: S))) t := XS.lcmp X.here hx rfl (hb hby hd) rfl hr
theorem oiinc (X : Stand p l e R s m args below meth c T locs cells slots) (hx : p.tables.exec = Jvm.exec) (hby : c.code = bytes) {k : Nat} {z : Int} {x : Int32} (hd : decode bytes pc = .ok (.iinc k z, 3)) (l' : Array Slot) (hl : L[k]? = some (.val (.int x))) (hl' : storeLocals L k (.int (x + Int32.ofInt z)) = some l') (hr : Steps p.tables e below (T.setTop (mkF m (pc + 3) l' S)) t) : Steps p.tables e below (T.setTop (mkF m pc L S)) t := XS.iinc X.here hx rfl (hb hby hd) hl hl' hr
theorem odup (X : Stand p l e R s m args below meth c T locs cells slots) (hx : p.tables.exec = Jvm.exec) (hby : c.code = bytes) {x : Value} (hd : decode bytes pc = .ok (.dup, 1)) (hc : x.category = 1) (hr : Steps p.tables e below (T.setTop (mkF m (pc + 1) L (x :: x :: S))) t) : Steps p.tables e below (T.setTop (mkF m pc L (x :: S))) t := XS.dup X.here hx rfl (hb hby hd) rfl hc hr
theorem opop (X : Stand p l e R s m args below meth c T locs cells slots) (hx : p.tables.exec = Jvm.exec) (hby : c.code = bytes) {x : Value} (hd : decode bytes pc = .ok (.pop, 1)) (hc : x.category = 1) (hr : Steps p.tables e below (T.setTop (mkF m (pc + 1) L S)) t) : Steps p.tables e below (T.setTop (mkF m pc L (x :: S))) t := XS.pop X.here hx rfl (hb hby hd) rfl hc hr
theorem odupx1 (X : Stand p l e R s m args below meth c T locs cells slots) (hx : p.tables.exec = Jvm.exec) (hby : c.code = bytes) {x y : Value} (hd : decode bytes pc = .ok (.dup_x1, 1)) (hc : x.category = 1) (hc' : y.category = 1) (hr : Steps p.tables e below (T.setTop (mkF m (pc + 1) L (x :: y :: x :: S))) t) : Steps p.tables e below (T.setTop (mkF m pc L (x :: y :: S))) t := XS.dupX1 X.here hx rfl (hb hby hd) rfl hc hc' hr
theorem odup2 (X : Stand p l e R s m args below meth c T locs cells slots) (hx : p.tables.exec = Jvm.exec) (hby : c.code = bytes) {x y : Value} (hd : decode bytes pc = .ok (.dup2, 1)) (hc : x.category = 1) (hc' : y.category = 1) (hr : Steps p.tables e below (T.setTop (mkF m (pc + 1) L (x :: y :: x :: y :: S))) t) : Steps p.tables e below (T.setTop (mkF m pc L (x :: y :: S))) t := Jvm.Free.XT.dup2 X.here hx rfl (hb hby hd) rfl hc hc' hr
theorem ogoto (X : Stand p l e R s m args below meth c T locs cells slots) (hx : p.tables.exec = Jvm.exec) (hby : c.code = bytes) {o : Int} (hd : decode bytes pc = .ok (.goto o, 3)) (pc' : Nat) (hp : 0 ≤ (pc : Int) + o ∧ ((pc : Int) + o).toNat = pc') (hr : Steps p.tables e below (T.setTop (mkF m pc' L S)) t) : Steps p.tables e below (T.setTop (mkF m pc L S)) t := XS.goto X.here hx rfl rfl (hb hby hd) hp.1 hp.2 hr
theorem oifY (X : Stand p l e R s m args below meth c T locs cells slots) (hx : p.tables.exec = Jvm.exec) (hby : c.code = bytes) {cd : ClassFile.Cond} {x : Int32} {o : Int} (hd : decode bytes pc = .ok (.ifCond cd o, 3)) (pc' : Nat) (hc : ifCond.holds cd x = true) (hp : 0 ≤ (pc : Int) + o ∧ ((pc : Int) + o).toNat = pc') (hr : Steps p.tables e below (T.setTop (mkF m pc' L S)) t) : Steps p.tables e below (T.setTop (mkF m pc L (.int x :: S))) t := XS.ifYes X.here hx rfl rfl (hb hby hd) rfl hc hp.1 hp.2 hr
theorem oifN (X : Stand p l e R s m args below meth c T locs cells slots) (hx : p.tables.exec = Jvm.exec) (hby : c.code = bytes) {cd : ClassFile.Cond} {x : Int32} {o : Int} (hd : decode bytes pc = .ok (.ifCond cd o, 3)) (hc : ifCond.holds cd x = false) (hr : Steps p.tables e below (T.setTop (mkF m (pc + 3) L S)) t) : Steps p.tables e below (T.setTop (mkF m pc L (.int x :: S))) t := XS.ifNo X.here hx rfl (hb hby hd) rfl hc hr
theorem oicY (X : Stand p l e R s m args below meth c T locs cells slots) (hx : p.tables.exec = Jvm.exec) (hby : c.code = bytes) {cd : ClassFile.Cond} {x y : Int32} {o : Int} (hd : decode bytes pc = .ok (.if_icmp cd o, 3)) (pc' : Nat) (hc : if_icmp.holds cd x y = true) (hp : 0 ≤ (pc : Int) + o ∧ ((pc : Int) + o).toNat = pc') (hr : Steps p.tables e below (T.setTop (mkF m pc' L S)) t) : Steps p.tables e below (T.setTop (mkF m pc L (.int y :: .int x :: S))) t := XS.icmpYes X.here hx rfl rfl (hb hby hd) rfl hc hp.1 hp.2 hr
theorem oicN (X : Stand p l e R s m args below meth c T locs cells slots) (hx : p.tables.exec = Jvm.exec) (hby : c.code = bytes) {cd : ClassFile.Cond} {x y : Int32} {o : Int} (hd : decode bytes pc = .ok (.if_icmp cd o, 3)) (hc : if_icmp.holds cd x y = false) (hr : Steps p.tables e below (T.setTop (mkF m (pc + 3) L S)) t) : Steps p.tables e below (T.setTop (mkF m pc L (.int y :: .int x :: S))) t := XS.icmpNo X.here hx rfl (hb hby hd) rfl hc hr
theorem oacmp (X : Stand p l e R s m args below meth c T locs cells slots) (hx : p.tables.exec = Jvm.exec) (hby : c.code = bytes) {cd : ACond} {x y : Value} {o : Int} (hd : decode bytes pc = .ok (.if_acmp cd o, 3)) (pc' : Nat) {same : Bool} (h1 : x.isRef = true) (h2 : y.isRef = true) (hq : decide (x = y) = same) (hp : 0 ≤ (pc : Int) + o ∧ pc' = if acV cd same = true then ((pc : Int) + o).toNat else pc + 3) (hr : Steps p.tables e below (T.setTop (mkF m pc' L S)) t) : Steps p.tables e below (T.setTop (mkF m pc L (y :: x :: S))) t := Jvm.RoadKit.acmp X hx rfl h1 h2 rfl (hb hby hd) rfl hq hp.1 hp.2 hr
theorem onlY (X : Stand p l e R s m args below meth c T locs cells slots) (hx : p.tables.exec = Jvm.exec) (hby : c.code = bytes) {o : Int} (hd : decode bytes pc = .ok (.ifnull o, 3)) (pc' : Nat) (hp : 0 ≤ (pc : Int) + o ∧ ((pc : Int) + o).toNat = pc') (hr : Steps p.tables e below (T.setTop (mkF m pc' L S)) t) : Steps p.tables e below (T.setTop (mkF m pc L (.null :: S))) t := XS.ifnullYes X.here hx rfl rfl (hb hby hd) rfl hp.1 hp.2 hr
theorem onlN (X : Stand p l e R s m args below meth c T locs cells slots) (hx : p.tables.exec = Jvm.exec) (hby : c.code = bytes) {o : Int} {a : Addr} (hd : decode bytes pc = .ok (.ifnull o, 3)) (hr : Steps p.tables e below (T.setTop (mkF m (pc + 3) L S)) t) : Steps p.tables e below (T.setTop (mkF m pc L (.ref a :: S))) t := XS.ifnullNo X.here hx rfl (hb hby hd) rfl hr
theorem onnY (X : Stand p l e R s m args below meth c T locs cells slots) (hx : p.tables.exec = Jvm.exec) (hby : c.code = bytes) {o : Int} {a : Addr} (hd : decode bytes pc = .ok (.ifnonnull o, 3)) (pc' : Nat) (hp : 0 ≤ (pc : Int) + o ∧ ((pc : Int) + o).toNat = pc') (hr : Steps p.tables e below (T.setTop (mkF m pc' L S)) t) : Steps p.tables e below (T.setTop (mkF m pc L (.ref a :: S))) t := XS.ifnonnullYes X.here hx rfl rfl (hb hby hd) rfl hp.1 hp.2 hr
theorem onnN (X : Stand p l e R s m args below meth c T locs cells slots) (hx : p.tables.exec = Jvm.exec) (hby : c.code = bytes) {o : Int} (hd : decode bytes pc = .ok (.ifnonnull o, 3)) (hr : Steps p.tables e below (T.setTop (mkF m (pc + 3) L S)) t) : Steps p.tables e below (T.setTop (mkF m pc L (.null :: S))) t := XS.ifnonnullNo X.here hx rfl (hb hby hd) rfl hr
end OwnSteps
section OwnCalls
variable {p : Program} {l : Launch} {e : Env} {R : Room} {s : State} {m : MethodId} {args : Array Value} {below : List Frame} {meth : Method} {c : Code} {T : State} {locs : List Loc} {cells slots : Nat} {Z : State} {a0 : Array Value} {h : Heap} {bytes : ByteArray}
theorem ocallS (X : Stand p l e R s m args below meth c T locs cells slots) (hx : p.tables.exec = Jvm.exec) (hZ : Z.Warmed39 s.vm) {cb : ByteArray} {maxL : Nat} {ret : Option FieldType} {rm : Room} {Q : Option Value → Heap → List Loc → Prop} {argsL rest : List Value} {index : Nat} {own : String} (y : MethodName) (hown : s.vm.findClass own = some m.cls) (w1 : (Cond.methodLink own index y).before a0 Z = true) (w2 : (Cond.static y).before a0 Z = true) (hy : y.cls ≠ "java/lang/invoke/MethodHandle" ∧ y.cls ≠ "java/lang/invoke/VarHandle") (w5 : (Cond.code y cb maxL ret).before a0 Z = true) (w6 : (Cond.initialized y.cls).before a0 Z = true) (eT : T.heap = h) (hM : MetFree l y (head1 [Cond.code y cb maxL ret] rm) (fun a U => a = argsL.toArray ∧ Z.Warmed39 U.vm ∧ U.heap = h) (fun _ _ _ _ _ => True) (fun _ U o U' => ∃ v L, o = .returned v ∧ Q v U'.heap L ∧ FrameEnd U o U' L rm.cells rm.slots)) {st : List Value} (hst : st = argsL.reverse ++ rest) (W : Nat) (hW : (rest.map fun v => v.category).sum = W) (hroom : rm.frames + 1 ≤ R.frames ∧ W + (maxL + 11) + rm.locals ≤ R.locals ∧ cells + rm.cells ≤ R.cells ∧ slots + rm.slots ≤ R.slots) {pc : Nat} {Ls : Array Slot} {nl : Nat} (hml : c.maxLocals = nl) (hsz : Ls.size = nl) (hlen : ∀ sig, parseMethodDescriptor y.desc = some sig → argsL.length = sig.parameters.length) (hd : decode bytes pc = .ok (.invokestatic index, 3)) (hby : c.code = bytes) : ∃ v T' L, Stand p l e R s m args below meth c T' (locs ++ L) (cells + rm.cells) (slots + rm.slots) ∧ Q v T'.heap L ∧ ∀ t, Steps p.tables e below (T'.setTop (mkF m (pc + 3) Ls (v.toList ++ rest))) t → Steps p.tables e below (T.setTop (mkF m pc Ls st)) t := by
  subst hst
  obtain ⟨_, _, ⟨T1, L1, k1, n1⟩, -, X1, ⟨Lc1, hQ1, l1, y1, z1⟩, st1⟩ := Jvm.LawKit.callS X hx hown (mvT hZ w1) (mvT hZ w2) (mvT hZ w6) (mvT hZ w5) hy (backOf (W := W) hM hZ w5 w6 hroom.1 hroom.2.1) (g := mkF m pc Ls (argsL.reverse ++ rest)) rfl (hsz.trans hml.symm) (argsL := argsL) (rest := rest) hlen rfl (by show 2 * 0 + _ ≤ _; rw [Nat.mul_zero, Nat.zero_add]; exact Nat.le_of_eq hW) (hb hby hd) (fun _ _ => ⟨rfl, eT, hroom.2.2.1, hroom.2.2.2⟩)
  dsimp only [Pt.U, Pt.locs, Pt.cells, Pt.slots] at X1 l1 y1 z1 st1 hQ1
  subst l1 y1 z1
  exact ⟨_, _, _, X1, hQ1, st1⟩
theorem ocallI (X : Stand p l e R s m args below meth c T locs cells slots) (hx : p.tables.exec = Jvm.exec) (hZ : Z.Warmed39 s.vm) {cb : ByteArray} {maxL : Nat} {rm : Room} {Q : Option Value → Heap → List Loc → Prop} {argsL rest : List Value} {index : Nat} {own : String} (y : MethodName) (hn : y.name = "<init>") (hown : s.vm.findClass own = some m.cls) (w1 : (Cond.methodLink own index y).before a0 Z = true) (w2 : (Cond.instanceMethod y).before a0 Z = true) (hy : y.cls ≠ "java/lang/invoke/MethodHandle" ∧ y.cls ≠ "java/lang/invoke/VarHandle") (w5 : (Cond.code y cb maxL none).before a0 Z = true) (w6 : (Cond.initialized y.cls).before a0 Z = true) (eT : T.heap = h) {b : Addr} (hM : MetFree l y (head1 [Cond.code y cb maxL none] rm) (fun a U => a = (.ref b :: argsL).toArray ∧ Z.Warmed39 U.vm ∧ U.heap = h) (fun _ _ _ _ _ => True) (fun _ U o U' => ∃ v L, o = .returned v ∧ Q v U'.heap L ∧ FrameEnd U o U' L rm.cells rm.slots)) {st : List Value} (hst : st = argsL.reverse ++ .ref b :: rest) (W : Nat) (hW : (rest.map fun v => v.category).sum = W) (hroom : rm.frames + 1 ≤ R.frames ∧ W + (maxL + 11) + rm.locals ≤ R.locals ∧ cells + rm.cells ≤ R.cells ∧ slots + rm.slots ≤ R.slots) {pc : Nat} {Ls : Array Slot} {nl : Nat} (hml : c.maxLocals = nl) (hsz : Ls.size = nl) (hlen : ∀ sig, parseMethodDescriptor y.desc = some sig → argsL.length = sig.parameters.length) (hd : decode bytes pc = .ok (.invokespecial index, 3)) (hby : c.code = bytes) : ∃ v T' L, Stand p l e R s m args below meth c T' (locs ++ L) (cells + rm.cells) (slots + rm.slots) ∧ Q v T'.heap L ∧ ∀ t, Steps p.tables e below (T'.setTop (mkF m (pc + 3) Ls (v.toList ++ rest))) t → Steps p.tables e below (T.setTop (mkF m pc Ls st)) t := by
  subst hst
  obtain ⟨_, _, ⟨T1, L1, k1, n1⟩, -, X1, ⟨Lc1, hQ1, l1, y1, z1⟩, st1⟩ := X.specialBack hx hn hown (mvT hZ w1) (mvT hZ w2) (mvT hZ w5) hy (backOf (W := W) hM hZ w5 w6 hroom.1 hroom.2.1) (g := mkF m pc Ls (argsL.reverse ++ .ref b :: rest)) rfl (hsz.trans hml.symm) (Steps.refl _) (a := b) (argsL := argsL) (rest := rest) hlen rfl (by show 2 * 0 + _ ≤ _; rw [Nat.mul_zero, Nat.zero_add]; exact Nat.le_of_eq hW) (hb hby hd) (fun _ _ => ⟨rfl, eT, hroom.2.2.1, hroom.2.2.2⟩)
  dsimp only [Pt.U, Pt.locs, Pt.cells, Pt.slots] at X1 l1 y1 z1 st1 hQ1
  subst l1 y1 z1
  exact ⟨_, _, _, X1, hQ1, fun _ k => st1.trans k⟩
theorem ocallV (X : Stand p l e R s m args below meth c T locs cells slots) (hx : p.tables.exec = Jvm.exec) (hZ : Z.Warmed39 s.vm) {cb : ByteArray} {maxL : Nat} {ret : Option FieldType} {rm : Room} {Q : Option Value → Heap → List Loc → Prop} {argsL rest : List Value} {index : Nat} {own : String} {C : String} (y z : MethodName) (hown : s.vm.findClass own = some m.cls) (w1 : (Cond.methodLink own index y).before a0 Z = true) (w2 : (Cond.declares y).before a0 Z = true) (nf : NotFace s y) (w4 : (Cond.selects C y z).before a0 Z = true) (w3 : (Cond.instanceMethod z).before a0 Z = true) (hy : y.cls ≠ "java/lang/invoke/MethodHandle" ∧ y.cls ≠ "java/lang/invoke/VarHandle") (w5 : (Cond.code z cb maxL ret).before a0 Z = true) (w6 : (Cond.initialized z.cls).before a0 Z = true) (eT : T.heap = h) {b : Addr} (E : Exa Z h b C) (hM : MetFree l z (head1 [Cond.code z cb maxL ret] rm) (fun a U => a = (.ref b :: argsL).toArray ∧ Z.Warmed39 U.vm ∧ U.heap = h) (fun _ _ _ _ _ => True) (fun _ U o U' => ∃ v L, o = .returned v ∧ Q v U'.heap L ∧ FrameEnd U o U' L rm.cells rm.slots)) {st : List Value} (hst : st = argsL.reverse ++ .ref b :: rest) (W : Nat) (hW : (rest.map fun v => v.category).sum = W) (hroom : rm.frames + 1 ≤ R.frames ∧ W + (maxL + 11) + rm.locals ≤ R.locals ∧ cells + rm.cells ≤ R.cells ∧ slots + rm.slots ≤ R.slots) {pc : Nat} {Ls : Array Slot} {nl : Nat} (hml : c.maxLocals = nl) (hsz : Ls.size = nl) (hlen : ∀ sig, parseMethodDescriptor y.desc = some sig → argsL.length = sig.parameters.length) (hd : decode bytes pc = .ok (.invokevirtual index, 3)) (hby : c.code = bytes) : ∃ v T' L, Stand p l e R s m args below meth c T' (locs ++ L) (cells + rm.cells) (slots + rm.slots) ∧ Q v T'.heap L ∧ ∀ t, Steps p.tables e below (T'.setTop (mkF m (pc + 3) Ls (v.toList ++ rest))) t → Steps p.tables e below (T.setTop (mkF m pc Ls st)) t := by
  subst hst
  obtain ⟨cq, kq, qa, qb, qc⟩ := isOf hZ eT E
  obtain ⟨_, _, ⟨T1, L1, k1, n1⟩, -, X1, ⟨Lc1, hQ1, l1, y1, z1⟩, st1⟩ := X.virtualBack hx hown (mvT hZ w1) (mvT hZ w2) nf (mvT hZ w4) (mvT hZ w3) hy (backOf (W := W) hM hZ w5 w6 hroom.1 hroom.2.1) qa qc (g := mkF m pc Ls (argsL.reverse ++ .ref b :: rest)) rfl (hsz.trans hml.symm) (Steps.refl _) (argsL := argsL) (rest := rest) hlen rfl (by show 2 * 0 + _ ≤ _; rw [Nat.mul_zero, Nat.zero_add]; exact Nat.le_of_eq hW) (hb hby hd) (fun _ _ => ⟨rfl, eT, hroom.2.2.1, hroom.2.2.2⟩)
  dsimp only [Pt.U, Pt.locs, Pt.cells, Pt.slots] at X1 l1 y1 z1 st1 hQ1
  subst l1 y1 z1
  exact ⟨_, _, _, X1, hQ1, fun _ k => st1.trans k⟩
theorem ocallU (X : Stand p l e R s m args below meth c T locs cells slots) (hx : p.tables.exec = Jvm.exec) (hZ : Z.Warmed39 s.vm) {cb : ByteArray} {maxL : Nat} {ret : Option FieldType} {rm : Room} {Q : Option Value → Heap → List Loc → Prop} {argsL rest : List Value} {index : Nat} {own : String} {C owner : String} (x y : MethodName) (hown : s.vm.findClass own = some m.cls) (w1 : (Cond.methodLink own index x).before a0 Z = true) (w2 : (Cond.sameMethod x.cls owner x.name x.desc).before a0 Z = true) (w7 : (Cond.declares ⟨owner, x.name, x.desc⟩).before a0 Z = true) (hy : owner ≠ "java/lang/invoke/MethodHandle" ∧ owner ≠ "java/lang/invoke/VarHandle") (w4 : (Cond.selects C x y).before a0 Z = true) (w3 : (Cond.instanceMethod y).before a0 Z = true) (w5 : (Cond.code y cb maxL ret).before a0 Z = true) (w6 : (Cond.initialized y.cls).before a0 Z = true) (eT : T.heap = h) {b : Addr} (E : Exa Z h b C) (hM : MetFree l y (head1 [Cond.code y cb maxL ret] rm) (fun a U => a = (.ref b :: argsL).toArray ∧ Z.Warmed39 U.vm ∧ U.heap = h) (fun _ _ _ _ _ => True) (fun _ U o U' => ∃ v L, o = .returned v ∧ Q v U'.heap L ∧ FrameEnd U o U' L rm.cells rm.slots)) {st : List Value} (hst : st = argsL.reverse ++ .ref b :: rest) (W : Nat) (hW : (rest.map fun v => v.category).sum = W) (hroom : rm.frames + 1 ≤ R.frames ∧ W + (maxL + 11) + rm.locals ≤ R.locals ∧ cells + rm.cells ≤ R.cells ∧ slots + rm.slots ≤ R.slots) {pc : Nat} {Ls : Array Slot} {nl : Nat} (hml : c.maxLocals = nl) (hsz : Ls.size = nl) (hlen : ∀ sig, parseMethodDescriptor x.desc = some sig → argsL.length = sig.parameters.length) (hd : decode bytes pc = .ok (.invokevirtual index, 3)) (hby : c.code = bytes) : ∃ v T' L, Stand p l e R s m args below meth c T' (locs ++ L) (cells + rm.cells) (slots + rm.slots) ∧ Q v T'.heap L ∧ ∀ t, Steps p.tables e below (T'.setTop (mkF m (pc + 3) Ls (v.toList ++ rest))) t → Steps p.tables e below (T.setTop (mkF m pc Ls st)) t := by
  subst hst
  obtain ⟨cq, kq, qa, qb, qc⟩ := isOf hZ eT E
  obtain ⟨_, _, ⟨T1, L1, k1, n1⟩, -, X1, ⟨Lc1, hQ1, l1, y1, z1⟩, st1⟩ := X.virtualBackUp hx hown (mvT hZ w1) (mvT hZ w2) (mvT hZ w7) hy (mvT hZ w4) (mvT hZ w3) (backOf (W := W) hM hZ w5 w6 hroom.1 hroom.2.1) qa qc (g := mkF m pc Ls (argsL.reverse ++ .ref b :: rest)) rfl (hsz.trans hml.symm) (Steps.refl _) (argsL := argsL) (rest := rest) hlen rfl (by show 2 * 0 + _ ≤ _; rw [Nat.mul_zero, Nat.zero_add]; exact Nat.le_of_eq hW) (hb hby hd) (fun _ _ => ⟨rfl, eT, hroom.2.2.1, hroom.2.2.2⟩)
  dsimp only [Pt.U, Pt.locs, Pt.cells, Pt.slots] at X1 l1 y1 z1 st1 hQ1
  subst l1 y1 z1
  exact ⟨_, _, _, X1, hQ1, fun _ k => st1.trans k⟩
theorem ocallP (X : Stand p l e R s m args below meth c T locs cells slots) (hx : p.tables.exec = Jvm.exec) (hZ : Z.Warmed39 s.vm) {cb : ByteArray} {maxL : Nat} {ret : Option FieldType} {rm : Room} {Q : Option Value → Heap → List Loc → Prop} {argsL rest : List Value} {index : Nat} {own : String} (y : MethodName) (hown : s.vm.findClass own = some m.cls) (w1 : (Cond.methodLink own index y).before a0 Z = true) (w2 : (Cond.instanceMethod y).before a0 Z = true) (w4 : (Cond.selects y.cls y y).before args s = true) (w3 : (Cond.privateMethod y).before a0 Z = true) (hy : y.cls ≠ "java/lang/invoke/MethodHandle" ∧ y.cls ≠ "java/lang/invoke/VarHandle") (w5 : (Cond.code y cb maxL ret).before a0 Z = true) (w6 : (Cond.initialized y.cls).before a0 Z = true) (eT : T.heap = h) {C : String} {b : Addr} (E : Exa Z h b C) (hM : MetFree l y (head1 [Cond.code y cb maxL ret] rm) (fun a U => a = (.ref b :: argsL).toArray ∧ Z.Warmed39 U.vm ∧ U.heap = h) (fun _ _ _ _ _ => True) (fun _ U o U' => ∃ v L, o = .returned v ∧ Q v U'.heap L ∧ FrameEnd U o U' L rm.cells rm.slots)) {st : List Value} (hst : st = argsL.reverse ++ .ref b :: rest) (W : Nat) (hW : (rest.map fun v => v.category).sum = W) (hroom : rm.frames + 1 ≤ R.frames ∧ W + (maxL + 11) + rm.locals ≤ R.locals ∧ cells + rm.cells ≤ R.cells ∧ slots + rm.slots ≤ R.slots) {pc : Nat} {Ls : Array Slot} {nl : Nat} (hml : c.maxLocals = nl) (hsz : Ls.size = nl) (hlen : ∀ sig, parseMethodDescriptor y.desc = some sig → argsL.length = sig.parameters.length) (hd : decode bytes pc = .ok (.invokevirtual index, 3)) (hby : c.code = bytes) : ∃ v T' L, Stand p l e R s m args below meth c T' (locs ++ L) (cells + rm.cells) (slots + rm.slots) ∧ Q v T'.heap L ∧ ∀ t, Steps p.tables e below (T'.setTop (mkF m (pc + 3) Ls (v.toList ++ rest))) t → Steps p.tables e below (T.setTop (mkF m pc Ls st)) t := by
  subst hst
  obtain ⟨cq, q1, q2⟩ := E.cell
  obtain ⟨_, _, ⟨T1, L1, k1, n1⟩, -, X1, ⟨Lc1, hQ1, l1, y1, z1⟩, st1⟩ := X.privateBack hx hown (mvT hZ w1) (mvT hZ w2) w4 (Cond.privateMethod_at (mvP hZ w3 (args := #[]))) (mvT hZ w5) hy (backOf (W := W) hM hZ w5 w6 hroom.1 hroom.2.1) (g := mkF m pc Ls (argsL.reverse ++ .ref b :: rest)) rfl (hsz.trans hml.symm) (Steps.refl _) (a := b) (by rw [eT]; exact q1) q2 (argsL := argsL) (rest := rest) hlen rfl (by show 2 * 0 + _ ≤ _; rw [Nat.mul_zero, Nat.zero_add]; exact Nat.le_of_eq hW) (hb hby hd) (fun _ _ => ⟨rfl, eT, hroom.2.2.1, hroom.2.2.2⟩)
  dsimp only [Pt.U, Pt.locs, Pt.cells, Pt.slots] at X1 l1 y1 z1 st1 hQ1
  subst l1 y1 z1
  exact ⟨_, _, _, X1, hQ1, fun _ k => st1.trans k⟩
theorem ocallN (X : Stand p l e R s m args below meth c T locs cells slots) (hx : p.tables.exec = Jvm.exec) (hZ : Z.Warmed39 s.vm) {cb : ByteArray} {maxL : Nat} {ret : Option FieldType} {rm : Room} {Q : Option Value → Heap → List Loc → Prop} {argsL rest : List Value} {index : Nat} {own : String} {C : String} (x y : MethodName) (hown : s.vm.findClass own = some m.cls) (w1 : (Cond.methodLink own index x).before a0 Z = true) (w2 : (Cond.declares x).before a0 Z = true) (w7 : (Cond.interfaceMethod x.cls x.cls x.name x.desc).before args s = true) (w4 : (Cond.selects C x y).before a0 Z = true) (w3 : (Cond.instanceMethod y).before a0 Z = true) (w8 : (Cond.publicMethod y).before a0 Z = true) (w9 : (Cond.unhidden C x.name x.desc).before a0 Z = true) (wa : (Cond.castable C x.cls).before a0 Z = true) (hy : x.cls ≠ "java/lang/invoke/MethodHandle" ∧ x.cls ≠ "java/lang/invoke/VarHandle") (w5 : (Cond.code y cb maxL ret).before a0 Z = true) (w6 : (Cond.initialized y.cls).before a0 Z = true) (eT : T.heap = h) {b : Addr} (E : Exa Z h b C) {cnt : Nat} (hM : MetFree l y (head1 [Cond.code y cb maxL ret] rm) (fun a U => a = (.ref b :: argsL).toArray ∧ Z.Warmed39 U.vm ∧ U.heap = h) (fun _ _ _ _ _ => True) (fun _ U o U' => ∃ v L, o = .returned v ∧ Q v U'.heap L ∧ FrameEnd U o U' L rm.cells rm.slots)) {st : List Value} (hst : st = argsL.reverse ++ .ref b :: rest) (W : Nat) (hW : (rest.map fun v => v.category).sum = W) (hroom : rm.frames + 1 ≤ R.frames ∧ W + (maxL + 11) + rm.locals ≤ R.locals ∧ cells + rm.cells ≤ R.cells ∧ slots + rm.slots ≤ R.slots) {pc : Nat} {Ls : Array Slot} {nl : Nat} (hml : c.maxLocals = nl) (hsz : Ls.size = nl) (hlen : ∀ sig, parseMethodDescriptor x.desc = some sig → argsL.length = sig.parameters.length) (hd : decode bytes pc = .ok (.invokeinterface index cnt, 5)) (hby : c.code = bytes) : ∃ v T' L, Stand p l e R s m args below meth c T' (locs ++ L) (cells + rm.cells) (slots + rm.slots) ∧ Q v T'.heap L ∧ ∀ t, Steps p.tables e below (T'.setTop (mkF m (pc + 5) Ls (v.toList ++ rest))) t → Steps p.tables e below (T.setTop (mkF m pc Ls st)) t := by
  subst hst
  obtain ⟨cq, kq, qa, qb, qc⟩ := isOf hZ eT E
  obtain ⟨_, _, ⟨T1, L1, k1, n1⟩, -, X1, ⟨Lc1, hQ1, l1, y1, z1⟩, st1⟩ := X.interfaceBack hx hown (mvT hZ w1) (mvT hZ w2) w7 (mvT hZ w4) (mvT hZ w3) (mvT hZ w8) (mvT hZ w9) (mvT hZ wa) hy (backOf (W := W) hM hZ w5 w6 hroom.1 hroom.2.1) qa qb qc (g := mkF m pc Ls (argsL.reverse ++ .ref b :: rest)) rfl (hsz.trans hml.symm) (Steps.refl _) (argsL := argsL) (rest := rest) hlen rfl (by show 2 * 0 + _ ≤ _; rw [Nat.mul_zero, Nat.zero_add]; exact Nat.le_of_eq hW) (hb hby hd) (fun _ _ => ⟨rfl, eT, hroom.2.2.1, hroom.2.2.2⟩)
  dsimp only [Pt.U, Pt.locs, Pt.cells, Pt.slots] at X1 l1 y1 z1 st1 hQ1
  subst l1 y1 z1
  exact ⟨_, _, _, X1, hQ1, fun _ k => st1.trans k⟩
end OwnCalls
end Jvm.RoadKit
namespace Jvm.Pilot.@@N@@
open Jvm Jvm.ClassFile Sem Op Lib Jvm.Free Jvm.Stand Jvm.LawKit Jvm.RoadKit Bundle Jvm.Pilot.@@N@@.Jvm.D
theorem ww {Z : State} {a0 : Array Value} (hw : ∀ d ∈ tables_1, d.before a0 Z = true) (i : Nat) {d : Jvm.Cond} (h : tables_1[i]? = some d) : d.before a0 Z = true := hw d (List.mem_of_getElem? h)
def QLaw (n0 : Nat) (v : Option Value) (h : Heap) (L : List Loc) : Prop := v = some (.int (1 : Int32)) ∧ Fr n0 L

theorem own_r14 (t : Int32) (h0 : 0 ≤ t.toInt) (h1 : t.toInt < 14) : t = (0 : Int32) ∨ t = (1 : Int32) ∨ t = (2 : Int32) ∨ t = (3 : Int32) ∨ t = (4 : Int32) ∨ t = (5 : Int32) ∨ t = (6 : Int32) ∨ t = (7 : Int32) ∨ t = (8 : Int32) ∨ t = (9 : Int32) ∨ t = (10 : Int32) ∨ t = (11 : Int32) ∨ t = (12 : Int32) ∨ t = (13 : Int32) := by
  have h : t.toInt = 0 ∨ t.toInt = 1 ∨ t.toInt = 2 ∨ t.toInt = 3 ∨ t.toInt = 4 ∨ t.toInt = 5 ∨ t.toInt = 6 ∨ t.toInt = 7 ∨ t.toInt = 8 ∨ t.toInt = 9 ∨ t.toInt = 10 ∨ t.toInt = 11 ∨ t.toInt = 12 ∨ t.toInt = 13 := by omega
  rcases h with h | h | h | h | h | h | h | h | h | h | h | h | h | h <;> simp [← Int32.toInt_inj, h]
theorem own_m14_2147483647 (x : Int32) : (x &&& (2147483647 : Int32)) % (14 : Int32) = (0 : Int32) ∨ (x &&& (2147483647 : Int32)) % (14 : Int32) = (1 : Int32) ∨ (x &&& (2147483647 : Int32)) % (14 : Int32) = (2 : Int32) ∨ (x &&& (2147483647 : Int32)) % (14 : Int32) = (3 : Int32) ∨ (x &&& (2147483647 : Int32)) % (14 : Int32) = (4 : Int32) ∨ (x &&& (2147483647 : Int32)) % (14 : Int32) = (5 : Int32) ∨ (x &&& (2147483647 : Int32)) % (14 : Int32) = (6 : Int32) ∨ (x &&& (2147483647 : Int32)) % (14 : Int32) = (7 : Int32) ∨ (x &&& (2147483647 : Int32)) % (14 : Int32) = (8 : Int32) ∨ (x &&& (2147483647 : Int32)) % (14 : Int32) = (9 : Int32) ∨ (x &&& (2147483647 : Int32)) % (14 : Int32) = (10 : Int32) ∨ (x &&& (2147483647 : Int32)) % (14 : Int32) = (11 : Int32) ∨ (x &&& (2147483647 : Int32)) % (14 : Int32) = (12 : Int32) ∨ (x &&& (2147483647 : Int32)) % (14 : Int32) = (13 : Int32) := own_r14 _ (by have h := (c_and x 2147483647 (by decide)).1; have e := (c_irem (x &&& 2147483647) 14 14 (by decide)).1 h; omega) (by have h := (c_and x 2147483647 (by decide)).1; have e := (c_irem (x &&& 2147483647) 14 14 (by decide)).1 h; omega)
abbrev lc0 (x0 : Int32) : Array Slot := #[.val (.int x0), .unset, .unset, .unset, .unset]
abbrev lc1 (x0 : Int32) (x1 : Addr) : Array Slot := #[.val (.int x0), .val (.ref x1), .unset, .unset, .unset]
abbrev lc2 (x0 : Int32) (x1 : Addr) (x2 : Int32) : Array Slot := #[.val (.int x0), .val (.ref x1), .val (.int x2), .unset, .unset]
abbrev lc3 (x0 : Int32) (x1 : Addr) (x2 : Int32) (x3 : Addr) : Array Slot := #[.val (.int x0), .val (.ref x1), .val (.int x2), .val (.ref x3), .unset]
abbrev lc4 (x0 : Int32) (x1 : Addr) (x2 : Int32) (x3 : Addr) (x4 : Int32) : Array Slot := #[.val (.int x0), .val (.ref x1), .val (.int x2), .val (.ref x3), .val (.int x4)]
theorem d1_0 : decode prog_20_method_4_code 0 = .ok (.aload_n 0, 1) := by decide +kernel
theorem d1_1 : decode prog_20_method_4_code 1 = .ok (.getstatic 31, 3) := by decide +kernel
abbrev lc5 (x0 : Addr) : Array Slot := #[.val (.ref x0)]
theorem d1_4 : decode prog_20_method_4_code 4 = .ok (.if_acmp .eq 10, 3) := by decide +kernel
theorem d1_7 : decode prog_20_method_4_code 7 = .ok (.aload_n 0, 1) := by decide +kernel
theorem d1_8 : decode prog_20_method_4_code 8 = .ok (.getstatic 34, 3) := by decide +kernel
theorem d1_11 : decode prog_20_method_4_code 11 = .ok (.if_acmp .ne 7, 3) := by decide +kernel
theorem d1_18 : decode prog_20_method_4_code 18 = .ok (.iconst 0, 1) := by decide +kernel
theorem d1_19 : decode prog_20_method_4_code 19 = .ok (.ireturn, 1) := by decide +kernel
theorem ef_0 (m : MethodId) (x0 : Addr) : entryFrame m #[(.ref x0)] 1 = mkF m 0 #[.val (.ref x0)] [] := by first | (simp [entryFrame, mkF, argsToLocals, Value.category, maxLocals]; done) | rfl
theorem pn_com_example_strict_ledger_strictledger_RefusalCode : plainName "com/example/strict_ledger/strictledger/RefusalCode" = true := by first | (simp [plainName, overriddenIn]; done) | decide +kernel
theorem pd_0 : parseMethodDescriptor "()Z" = some ⟨[], some .boolean⟩ := by decide +kernel
theorem ef_1 (m : MethodId) (x0 : Int32) : entryFrame m #[(.int x0)] maxLocals = mkF m 0 #[.val (.int x0), .unset, .unset, .unset, .unset] [] := by first | (simp [entryFrame, mkF, argsToLocals, Value.category, maxLocals]; done) | rfl
theorem pn_com_example_strict_ledger_strictledger_RefusalCodeIsAboutTextPinLaw : plainName "com/example/strict_ledger/strictledger/RefusalCodeIsAboutTextPinLaw" = true := by first | (simp [plainName, overriddenIn]; done) | decide +kernel
theorem d1_14 : decode prog_20_method_4_code 14 = .ok (.iconst 1, 1) := by decide +kernel
theorem d1_15 : decode prog_20_method_4_code 15 = .ok (.goto 4, 3) := by decide +kernel
abbrev zs0 : String := "com/example/strict_ledger/strictledger/RefusalCode"
abbrev zs1 : String := "Lcom/example/strict_ledger/strictledger/RefusalCode;"
abbrev zs2 : String := "ILLEGAL_TRANSITION"
abbrev zs3 : String := "DUPLICATE_TERMINAL"
abbrev zs4 : String := "PRECONDITION_FAILED"
abbrev zs5 : String := "VERSION_CONFLICT"
abbrev zs6 : String := "LEASE_REQUIRED"
abbrev zs7 : String := "LEASE_MISMATCH"
abbrev zs8 : String := "RETRY_NOT_ALLOWED"
abbrev zs9 : String := "NOT_ACTIVE_STEP"
abbrev zs10 : String := "IDEMPOTENCY_CONFLICT"
abbrev zs11 : String := "COUNTER_OVERFLOW"
abbrev zs12 : String := "INVARIANT_VIOLATION"
abbrev zs13 : String := "com/example/strict_ledger/strictledger/RefusalCodeIsAboutTextPinLaw"
abbrev zs14 : String := "[Lcom/example/strict_ledger/strictledger/RefusalCode;"
abbrev zm0 : MethodName := (⟨zs0, "isAboutText", "()Z"⟩ : MethodName)
def Q1_0 (Z : State) (a1 : Addr) (a2 : Addr) (a6 : Addr) (h0 : Heap) (n0 : Nat) (v : Option Value) (h : Heap) (L : List Loc) : Prop := v = some (.int 0) ∧ Fr n0 L ∧ h = h0
set_option maxRecDepth 65536 in
set_option maxHeartbeats 40000000 in
theorem rm1_0 (l : Launch) (Z : State) (a0 : Array Value) (hw : ∀ d ∈ tables_1, d.before a0 Z = true) (ws : List Jvm.Cond) (a1 : Addr) (a2 : Addr) (a6 : Addr) (h0 : Heap) (n0 : Nat) (Z0 : n0 ≤ h0.size) (F3 : Sta Z h0 zs0 "INVALID_JSON" zs1 (.ref a2)) (ha5 : a1 ≠ a2) (F7 : Sta Z h0 zs0 "INVALID_TEXT" zs1 (.ref a6)) (ha9 : a1 ≠ a6) :
    MetFree l zm0 (head1 (Jvm.Cond.code zm0 prog_20_method_4_code 1 (some .boolean) :: ws) ({ frames := 0, cells := 0, slots := 0, locals := 0 } : Room)) (fun a U => a = #[(.ref a1)] ∧ Z.Warmed39 U.vm ∧ U.heap = h0) (fun _ _ _ _ _ => True) (fun _ U o U' => ∃ v L, o = .returned v ∧ Q1_0 Z a1 a2 a6 h0 n0 v U'.heap L ∧ FrameEnd U o U' L ({ frames := 0, cells := 0, slots := 0, locals := 0 } : Room).cells ({ frames := 0, cells := 0, slots := 0, locals := 0 } : Room).slots) := by
  refine MetFree.of_bodySF (plainFor_of_name pn_com_example_strict_ledger_strictledger_RefusalCode) hisR ?_
  intro p e s m args below meth c s₁ Bd hml0 hP hK
  obtain ⟨rfl, hZ, hh⟩ := hP
  have hx := Bd.exec
  have hby := Bd.bytes
  have hml : c.maxLocals = 1 := hml0
  have hown : s.vm.findClass zs0 = some m.cls := findClass_of_methodNamed Bd.named
  have hnm := (name_of_methodNamed Bd.named Bd.method).1
  have X0 : Stand p l e ({ frames := 0, cells := 0, slots := 0, locals := 0 } : Room) s m #[(.ref a1)] below meth c s₁ [] 0 0 := Stand.of_body Bd
  have e0 : s₁.heap = h0 := by rw [← hh, Bd.state]; rfl
  have N0 := Fr.nil n0
  refine own_pre (g' := mkF m 0 (lc5 a1) []) (ef_0 m a1) ?_
  obtain ⟨T4, X4, e4, st4⟩ := getS2 X0 hx hZ hown (host := "") (Or.inl (ww hw 38 rfl)) Via.refl e0 F3 (g := (mkF m 1 (lc5 a1) [(.ref a1)])) rfl (hb hby d1_1)
  obtain ⟨T8, X8, e8, st8⟩ := getS2 X4 hx hZ hown (host := "") (Or.inl (ww hw 39 rfl)) Via.refl e4 F7 (g := (mkF m 8 (lc5 a1) [(.ref a1)])) rfl (hb hby d1_8)
  refine own_go (U' := T8.setTop (mkF m 19 (lc5 a1) [(.int 0)])) (fun t k => oaloadN X0 hx hby d1_0 rfl rfl (st4 _ (oacmp (pc := 4) X4 hx hby d1_4 7 (same := false) rfl rfl (decide_eq_false fun q => ha5 (Value.ref.inj q)) (by decide) (oaloadN X4 hx hby d1_7 rfl rfl (st8 _ (oacmp (pc := 11) X8 hx hby d1_11 18 (same := false) rfl rfl (decide_eq_false fun q => ha9 (Value.ref.inj q)) (by decide) (oiconst X8 hx hby d1_18 k))))))) ?_
  obtain ⟨fs, hr, hrun, hended, hW, hsame⟩ := X8.leave (v := some (.int 0)) (fun h => by rw [Bd.returns] at h; cases h)
  refine own_out ⟨_, _, ?_, hrun, hended, _, _, rfl, ?_, ⟨_, rfl⟩, hW, hsame.mono (by decide) (by decide)⟩
  · exact retN X8 hx (t := .boolean) Bd.returns (by simp) (hb hby d1_19) hr
  · show Q1_0 Z a1 a2 a6 h0 n0 _ T8.heap _
    rw [e8]
    exact ⟨rfl, N0, rfl⟩
set_option maxRecDepth 65536 in
set_option maxHeartbeats 40000000 in
theorem rm0_1 (l : Launch) (Z : State) (a0 : Array Value) (hw : ∀ d ∈ tables_1, d.before a0 Z = true) (ws : List Jvm.Cond) (p1 : Int32) (a4 : Addr) (a16 : Addr) (a27 : Addr) (a38 : Addr) (a49 : Addr) (a60 : Addr) (a71 : Addr) (a82 : Addr) (a93 : Addr) (a104 : Addr) (a115 : Addr) (a126 : Addr) (a137 : Addr) (a148 : Addr) (h0 : Heap) (n0 : Nat) (Z0 : n0 ≤ h0.size) (F5 : Sta Z h0 zs0 zs2 zs1 (.ref a4)) (F8 : Exa Z h0 a4 zs0) (F17 : Sta Z h0 zs0 zs3 zs1 (.ref a16)) (F20 : Exa Z h0 a16 zs0) (F28 : Sta Z h0 zs0 zs4 zs1 (.ref a27)) (F31 : Exa Z h0 a27 zs0) (F39 : Sta Z h0 zs0 zs5 zs1 (.ref a38)) (F42 : Exa Z h0 a38 zs0) (F50 : Sta Z h0 zs0 zs6 zs1 (.ref a49)) (F53 : Exa Z h0 a49 zs0) (F61 : Sta Z h0 zs0 zs7 zs1 (.ref a60)) (F64 : Exa Z h0 a60 zs0) (F72 : Sta Z h0 zs0 zs8 zs1 (.ref a71)) (F75 : Exa Z h0 a71 zs0) (F83 : Sta Z h0 zs0 zs9 zs1 (.ref a82)) (F86 : Exa Z h0 a82 zs0) (F94 : Sta Z h0 zs0 zs10 zs1 (.ref a93)) (F97 : Exa Z h0 a93 zs0) (F105 : Sta Z h0 zs0 "INVALID_JSON" zs1 (.ref a104)) (F108 : Exa Z h0 a104 zs0) (F116 : Sta Z h0 zs0 "INVALID_TEXT" zs1 (.ref a115)) (F119 : Exa Z h0 a115 zs0) (F127 : Sta Z h0 zs0 zs11 zs1 (.ref a126)) (F130 : Exa Z h0 a126 zs0) (F138 : Sta Z h0 zs0 zs12 zs1 (.ref a137)) (F141 : Exa Z h0 a137 zs0) (F149 : Sta Z h0 zs0 "UNKNOWN_ITEM" zs1 (.ref a148)) (F152 : Exa Z h0 a148 zs0) (hv159 : ((p1 &&& (2147483647 : Int32)) % (14 : Int32)) = (0 : Int32)) (ha165 : a4 ≠ a104) (ha167 : a4 ≠ a115) :
    MetFree l x (head1 (Jvm.Cond.code x code maxLocals ret :: ws) room_1) (fun a U => a = #[(.int p1)] ∧ Z.Warmed39 U.vm ∧ U.heap = h0) (fun _ _ _ _ _ => True) (fun _ U o U' => ∃ v L, o = .returned v ∧ QLaw n0 v U'.heap L ∧ FrameEnd U o U' L room_1.cells room_1.slots) := by
  refine MetFree.of_bodySF (plainFor_of_name pn_com_example_strict_ledger_strictledger_RefusalCodeIsAboutTextPinLaw) hisR ?_
  intro p e s m args below meth c s₁ Bd hml0 hP hK
  obtain ⟨rfl, hZ, hh⟩ := hP
  have hx := Bd.exec
  have hby := Bd.bytes
  have hml : c.maxLocals = 5 := hml0
  have hown : s.vm.findClass zs13 = some m.cls := findClass_of_methodNamed Bd.named
  have hnm := (name_of_methodNamed Bd.named Bd.method).1
  have X0 : Stand p l e room_1 s m #[(.int p1)] below meth c s₁ [] 0 0 := Stand.of_body Bd
  have e0 : s₁.heap = h0 := by rw [← hh, Bd.state]; rfl
  have N0 := Fr.nil n0
  refine own_pre (g' := mkF m 0 (lc0 p1) []) (ef_1 m p1) ?_
  obtain ⟨T2, h2, k2, X2, e2, E2, A2, B2, O2, st2⟩ := newRE X0 hx hZ hown (ww hw 0 rfl) (ww hw 1 rfl) e0 (g := (mkF m 2 (lc0 p1) [(.int 14)])) rfl (hb hby at_2) rfl (by decide) (cap := 14) (by decide) (by decide) (by decide) (by decide) (ad := zs14) (by decide)
  obtain ⟨b2, g2⟩ : ∃ z, z = h0.size := ⟨_, rfl⟩
  rw [← g2] at A2 B2 st2
  have f3 : Arv Z h2 b2 k2 (.object zs0) (14 : Int32) [] .null := Arv.new A2 (by decide)
  have f6 : Sta Z h2 zs0 zs2 zs1 (.ref a4) := (Sta.ext E2 F5)
  obtain ⟨T7, X7, e7, st7⟩ := getS2 X2 hx hZ hown (host := "") (Or.inl (ww hw 2 rfl)) Via.refl e2 f6 (g := (mkF m 7 (lc0 p1) [(.int 0), (.ref b2), (.ref b2)])) rfl (hb hby at_7)
  have f9 : Exa Z h2 a4 zs0 := (Exa.ext E2 F8)
  have f10 : Arv Z h2 b2 k2 (.object zs0) (14 : Int32) [.null] .null := f3.pad (pad_rep [] .null 1)
  obtain ⟨cl11, Ar11, q11, S11, N11, H11, G11⟩ := id f10
  have g13 : n0 ≤ b2 := Nat.le_trans Z0 (Nat.le_of_eq g2.symm)
  have hin12 : ¬ ((0 : Int32) < 0 ∨ cl11.slots.size ≤ ((0 : Int32)).toNatClampNeg) := inb_of S11 ⟨by decide, by decide⟩
  obtain ⟨T12, h12, X12, e12, W12, st12⟩ := stR X7 hx hZ e7 Ar11 (j := (0 : Int32)) hin12 rfl (Sto.ofV Ar11 q11 O2 (Ins.self f9)) (g := (mkF m 10 (lc0 p1) [(.ref a4), (.int 0), (.ref b2), (.ref b2)])) rfl rfl (hb hby at_10)
  have N14 := Fr.snoc X12 N0 g13
  have f15 : Arv Z h12 b2 k2 (.object zs0) (14 : Int32) [(.ref a4)] .null := Arv.set Ar11 q11 S11 N11 H11 G11 (by rfl) W12 0 rfl (Nat.le_of_ble_eq_true rfl)
  have f18 : Sta Z h12 zs0 zs3 zs1 (.ref a16) := (Sta.wr W12 (Sta.ext E2 F17))
  obtain ⟨T19, X19, e19, st19⟩ := getS2 X12 hx hZ hown (host := "") (Or.inl (ww hw 6 rfl)) Via.refl e12 f18 (g := (mkF m 13 (lc0 p1) [(.int 1), (.ref b2), (.ref b2)])) rfl (hb hby at_13)
  have f21 : Exa Z h12 a16 zs0 := (Exa.wr W12 (Exa.ext E2 F20))
  have f22 : Arv Z h12 b2 k2 (.object zs0) (14 : Int32) [(.ref a4), .null] .null := f15.pad (pad_rep [(.ref a4)] .null 1)
  obtain ⟨cl23, Ar23, q23, S23, N23, H23, G23⟩ := id f22
  have hin24 : ¬ ((1 : Int32) < 0 ∨ cl23.slots.size ≤ ((1 : Int32)).toNatClampNeg) := inb_of S23 ⟨by decide, by decide⟩
  obtain ⟨T24, h24, X24, e24, W24, st24⟩ := stR X19 hx hZ e19 Ar23 (j := (1 : Int32)) hin24 rfl (Sto.ofV Ar23 q23 O2 (Ins.self f21)) (g := (mkF m 16 (lc0 p1) [(.ref a16), (.int 1), (.ref b2), (.ref b2)])) rfl rfl (hb hby at_16)
  have N25 := Fr.snoc X24 N14 g13
  have f26 : Arv Z h24 b2 k2 (.object zs0) (14 : Int32) [(.ref a4), (.ref a16)] .null := Arv.set Ar23 q23 S23 N23 H23 G23 (by rfl) W24 1 rfl (Nat.le_of_ble_eq_true rfl)
  have f29 : Sta Z h24 zs0 zs4 zs1 (.ref a27) := (Sta.wr W24 (Sta.wr W12 (Sta.ext E2 F28)))
  obtain ⟨T30, X30, e30, st30⟩ := getS2 X24 hx hZ hown (host := "") (Or.inl (ww hw 8 rfl)) Via.refl e24 f29 (g := (mkF m 19 (lc0 p1) [(.int 2), (.ref b2), (.ref b2)])) rfl (hb hby at_19)
  have f32 : Exa Z h24 a27 zs0 := (Exa.wr W24 (Exa.wr W12 (Exa.ext E2 F31)))
  have f33 : Arv Z h24 b2 k2 (.object zs0) (14 : Int32) [(.ref a4), (.ref a16), .null] .null := f26.pad (pad_rep [(.ref a4), (.ref a16)] .null 1)
  obtain ⟨cl34, Ar34, q34, S34, N34, H34, G34⟩ := id f33
  have hin35 : ¬ ((2 : Int32) < 0 ∨ cl34.slots.size ≤ ((2 : Int32)).toNatClampNeg) := inb_of S34 ⟨by decide, by decide⟩
  obtain ⟨T35, h35, X35, e35, W35, st35⟩ := stR X30 hx hZ e30 Ar34 (j := (2 : Int32)) hin35 rfl (Sto.ofV Ar34 q34 O2 (Ins.self f32)) (g := (mkF m 22 (lc0 p1) [(.ref a27), (.int 2), (.ref b2), (.ref b2)])) rfl rfl (hb hby at_22)
  have N36 := Fr.snoc X35 N25 g13
  have f37 : Arv Z h35 b2 k2 (.object zs0) (14 : Int32) [(.ref a4), (.ref a16), (.ref a27)] .null := Arv.set Ar34 q34 S34 N34 H34 G34 (by rfl) W35 2 rfl (Nat.le_of_ble_eq_true rfl)
  have f40 : Sta Z h35 zs0 zs5 zs1 (.ref a38) := (Sta.wr W35 (Sta.wr W24 (Sta.wr W12 (Sta.ext E2 F39))))
  obtain ⟨T41, X41, e41, st41⟩ := getS2 X35 hx hZ hown (host := "") (Or.inl (ww hw 10 rfl)) Via.refl e35 f40 (g := (mkF m 25 (lc0 p1) [(.int 3), (.ref b2), (.ref b2)])) rfl (hb hby at_25)
  have f43 : Exa Z h35 a38 zs0 := (Exa.wr W35 (Exa.wr W24 (Exa.wr W12 (Exa.ext E2 F42))))
  have f44 : Arv Z h35 b2 k2 (.object zs0) (14 : Int32) [(.ref a4), (.ref a16), (.ref a27), .null] .null := f37.pad (pad_rep [(.ref a4), (.ref a16), (.ref a27)] .null 1)
  obtain ⟨cl45, Ar45, q45, S45, N45, H45, G45⟩ := id f44
  have hin46 : ¬ ((3 : Int32) < 0 ∨ cl45.slots.size ≤ ((3 : Int32)).toNatClampNeg) := inb_of S45 ⟨by decide, by decide⟩
  obtain ⟨T46, h46, X46, e46, W46, st46⟩ := stR X41 hx hZ e41 Ar45 (j := (3 : Int32)) hin46 rfl (Sto.ofV Ar45 q45 O2 (Ins.self f43)) (g := (mkF m 28 (lc0 p1) [(.ref a38), (.int 3), (.ref b2), (.ref b2)])) rfl rfl (hb hby at_28)
  have N47 := Fr.snoc X46 N36 g13
  have f48 : Arv Z h46 b2 k2 (.object zs0) (14 : Int32) [(.ref a4), (.ref a16), (.ref a27), (.ref a38)] .null := Arv.set Ar45 q45 S45 N45 H45 G45 (by rfl) W46 3 rfl (Nat.le_of_ble_eq_true rfl)
  have f51 : Sta Z h46 zs0 zs6 zs1 (.ref a49) := (Sta.wr W46 (Sta.wr W35 (Sta.wr W24 (Sta.wr W12 (Sta.ext E2 F50)))))
  obtain ⟨T52, X52, e52, st52⟩ := getS2 X46 hx hZ hown (host := "") (Or.inl (ww hw 12 rfl)) Via.refl e46 f51 (g := (mkF m 31 (lc0 p1) [(.int 4), (.ref b2), (.ref b2)])) rfl (hb hby at_31)
  have f54 : Exa Z h46 a49 zs0 := (Exa.wr W46 (Exa.wr W35 (Exa.wr W24 (Exa.wr W12 (Exa.ext E2 F53)))))
  have f55 : Arv Z h46 b2 k2 (.object zs0) (14 : Int32) [(.ref a4), (.ref a16), (.ref a27), (.ref a38), .null] .null := f48.pad (pad_rep [(.ref a4), (.ref a16), (.ref a27), (.ref a38)] .null 1)
  obtain ⟨cl56, Ar56, q56, S56, N56, H56, G56⟩ := id f55
  have hin57 : ¬ ((4 : Int32) < 0 ∨ cl56.slots.size ≤ ((4 : Int32)).toNatClampNeg) := inb_of S56 ⟨by decide, by decide⟩
  obtain ⟨T57, h57, X57, e57, W57, st57⟩ := stR X52 hx hZ e52 Ar56 (j := (4 : Int32)) hin57 rfl (Sto.ofV Ar56 q56 O2 (Ins.self f54)) (g := (mkF m 34 (lc0 p1) [(.ref a49), (.int 4), (.ref b2), (.ref b2)])) rfl rfl (hb hby at_34)
  have N58 := Fr.snoc X57 N47 g13
  have f59 : Arv Z h57 b2 k2 (.object zs0) (14 : Int32) [(.ref a4), (.ref a16), (.ref a27), (.ref a38), (.ref a49)] .null := Arv.set Ar56 q56 S56 N56 H56 G56 (by rfl) W57 4 rfl (Nat.le_of_ble_eq_true rfl)
  have f62 : Sta Z h57 zs0 zs7 zs1 (.ref a60) := (Sta.wr W57 (Sta.wr W46 (Sta.wr W35 (Sta.wr W24 (Sta.wr W12 (Sta.ext E2 F61))))))
  obtain ⟨T63, X63, e63, st63⟩ := getS2 X57 hx hZ hown (host := "") (Or.inl (ww hw 14 rfl)) Via.refl e57 f62 (g := (mkF m 37 (lc0 p1) [(.int 5), (.ref b2), (.ref b2)])) rfl (hb hby at_37)
  have f65 : Exa Z h57 a60 zs0 := (Exa.wr W57 (Exa.wr W46 (Exa.wr W35 (Exa.wr W24 (Exa.wr W12 (Exa.ext E2 F64))))))
  have f66 : Arv Z h57 b2 k2 (.object zs0) (14 : Int32) [(.ref a4), (.ref a16), (.ref a27), (.ref a38), (.ref a49), .null] .null := f59.pad (pad_rep [(.ref a4), (.ref a16), (.ref a27), (.ref a38), (.ref a49)] .null 1)
  obtain ⟨cl67, Ar67, q67, S67, N67, H67, G67⟩ := id f66
  have hin68 : ¬ ((5 : Int32) < 0 ∨ cl67.slots.size ≤ ((5 : Int32)).toNatClampNeg) := inb_of S67 ⟨by decide, by decide⟩
  obtain ⟨T68, h68, X68, e68, W68, st68⟩ := stR X63 hx hZ e63 Ar67 (j := (5 : Int32)) hin68 rfl (Sto.ofV Ar67 q67 O2 (Ins.self f65)) (g := (mkF m 40 (lc0 p1) [(.ref a60), (.int 5), (.ref b2), (.ref b2)])) rfl rfl (hb hby at_40)
  have N69 := Fr.snoc X68 N58 g13
  have f70 : Arv Z h68 b2 k2 (.object zs0) (14 : Int32) [(.ref a4), (.ref a16), (.ref a27), (.ref a38), (.ref a49), (.ref a60)] .null := Arv.set Ar67 q67 S67 N67 H67 G67 (by rfl) W68 5 rfl (Nat.le_of_ble_eq_true rfl)
  have f73 : Sta Z h68 zs0 zs8 zs1 (.ref a71) := (Sta.wr W68 (Sta.wr W57 (Sta.wr W46 (Sta.wr W35 (Sta.wr W24 (Sta.wr W12 (Sta.ext E2 F72)))))))
  obtain ⟨T74, X74, e74, st74⟩ := getS2 X68 hx hZ hown (host := "") (Or.inl (ww hw 16 rfl)) Via.refl e68 f73 (g := (mkF m 44 (lc0 p1) [(.int 6), (.ref b2), (.ref b2)])) rfl (hb hby at_44)
  have f76 : Exa Z h68 a71 zs0 := (Exa.wr W68 (Exa.wr W57 (Exa.wr W46 (Exa.wr W35 (Exa.wr W24 (Exa.wr W12 (Exa.ext E2 F75)))))))
  have f77 : Arv Z h68 b2 k2 (.object zs0) (14 : Int32) [(.ref a4), (.ref a16), (.ref a27), (.ref a38), (.ref a49), (.ref a60), .null] .null := f70.pad (pad_rep [(.ref a4), (.ref a16), (.ref a27), (.ref a38), (.ref a49), (.ref a60)] .null 1)
  obtain ⟨cl78, Ar78, q78, S78, N78, H78, G78⟩ := id f77
  have hin79 : ¬ ((6 : Int32) < 0 ∨ cl78.slots.size ≤ ((6 : Int32)).toNatClampNeg) := inb_of S78 ⟨by decide, by decide⟩
  obtain ⟨T79, h79, X79, e79, W79, st79⟩ := stR X74 hx hZ e74 Ar78 (j := (6 : Int32)) hin79 rfl (Sto.ofV Ar78 q78 O2 (Ins.self f76)) (g := (mkF m 47 (lc0 p1) [(.ref a71), (.int 6), (.ref b2), (.ref b2)])) rfl rfl (hb hby at_47)
  have N80 := Fr.snoc X79 N69 g13
  have f81 : Arv Z h79 b2 k2 (.object zs0) (14 : Int32) [(.ref a4), (.ref a16), (.ref a27), (.ref a38), (.ref a49), (.ref a60), (.ref a71)] .null := Arv.set Ar78 q78 S78 N78 H78 G78 (by rfl) W79 6 rfl (Nat.le_of_ble_eq_true rfl)
  have f84 : Sta Z h79 zs0 zs9 zs1 (.ref a82) := (Sta.wr W79 (Sta.wr W68 (Sta.wr W57 (Sta.wr W46 (Sta.wr W35 (Sta.wr W24 (Sta.wr W12 (Sta.ext E2 F83))))))))
  obtain ⟨T85, X85, e85, st85⟩ := getS2 X79 hx hZ hown (host := "") (Or.inl (ww hw 18 rfl)) Via.refl e79 f84 (g := (mkF m 51 (lc0 p1) [(.int 7), (.ref b2), (.ref b2)])) rfl (hb hby at_51)
  have f87 : Exa Z h79 a82 zs0 := (Exa.wr W79 (Exa.wr W68 (Exa.wr W57 (Exa.wr W46 (Exa.wr W35 (Exa.wr W24 (Exa.wr W12 (Exa.ext E2 F86))))))))
  have f88 : Arv Z h79 b2 k2 (.object zs0) (14 : Int32) [(.ref a4), (.ref a16), (.ref a27), (.ref a38), (.ref a49), (.ref a60), (.ref a71), .null] .null := f81.pad (pad_rep [(.ref a4), (.ref a16), (.ref a27), (.ref a38), (.ref a49), (.ref a60), (.ref a71)] .null 1)
  obtain ⟨cl89, Ar89, q89, S89, N89, H89, G89⟩ := id f88
  have hin90 : ¬ ((7 : Int32) < 0 ∨ cl89.slots.size ≤ ((7 : Int32)).toNatClampNeg) := inb_of S89 ⟨by decide, by decide⟩
  obtain ⟨T90, h90, X90, e90, W90, st90⟩ := stR X85 hx hZ e85 Ar89 (j := (7 : Int32)) hin90 rfl (Sto.ofV Ar89 q89 O2 (Ins.self f87)) (g := (mkF m 54 (lc0 p1) [(.ref a82), (.int 7), (.ref b2), (.ref b2)])) rfl rfl (hb hby at_54)
  have N91 := Fr.snoc X90 N80 g13
  have f92 : Arv Z h90 b2 k2 (.object zs0) (14 : Int32) [(.ref a4), (.ref a16), (.ref a27), (.ref a38), (.ref a49), (.ref a60), (.ref a71), (.ref a82)] .null := Arv.set Ar89 q89 S89 N89 H89 G89 (by rfl) W90 7 rfl (Nat.le_of_ble_eq_true rfl)
  have f95 : Sta Z h90 zs0 zs10 zs1 (.ref a93) := (Sta.wr W90 (Sta.wr W79 (Sta.wr W68 (Sta.wr W57 (Sta.wr W46 (Sta.wr W35 (Sta.wr W24 (Sta.wr W12 (Sta.ext E2 F94)))))))))
  obtain ⟨T96, X96, e96, st96⟩ := getS2 X90 hx hZ hown (host := "") (Or.inl (ww hw 20 rfl)) Via.refl e90 f95 (g := (mkF m 58 (lc0 p1) [(.int 8), (.ref b2), (.ref b2)])) rfl (hb hby at_58)
  have f98 : Exa Z h90 a93 zs0 := (Exa.wr W90 (Exa.wr W79 (Exa.wr W68 (Exa.wr W57 (Exa.wr W46 (Exa.wr W35 (Exa.wr W24 (Exa.wr W12 (Exa.ext E2 F97)))))))))
  have f99 : Arv Z h90 b2 k2 (.object zs0) (14 : Int32) [(.ref a4), (.ref a16), (.ref a27), (.ref a38), (.ref a49), (.ref a60), (.ref a71), (.ref a82), .null] .null := f92.pad (pad_rep [(.ref a4), (.ref a16), (.ref a27), (.ref a38), (.ref a49), (.ref a60), (.ref a71), (.ref a82)] .null 1)
  obtain ⟨cl100, Ar100, q100, S100, N100, H100, G100⟩ := id f99
  have hin101 : ¬ ((8 : Int32) < 0 ∨ cl100.slots.size ≤ ((8 : Int32)).toNatClampNeg) := inb_of S100 ⟨by decide, by decide⟩
  obtain ⟨T101, h101, X101, e101, W101, st101⟩ := stR X96 hx hZ e96 Ar100 (j := (8 : Int32)) hin101 rfl (Sto.ofV Ar100 q100 O2 (Ins.self f98)) (g := (mkF m 61 (lc0 p1) [(.ref a93), (.int 8), (.ref b2), (.ref b2)])) rfl rfl (hb hby at_61)
  have N102 := Fr.snoc X101 N91 g13
  have f103 : Arv Z h101 b2 k2 (.object zs0) (14 : Int32) [(.ref a4), (.ref a16), (.ref a27), (.ref a38), (.ref a49), (.ref a60), (.ref a71), (.ref a82), (.ref a93)] .null := Arv.set Ar100 q100 S100 N100 H100 G100 (by rfl) W101 8 rfl (Nat.le_of_ble_eq_true rfl)
  have f106 : Sta Z h101 zs0 "INVALID_JSON" zs1 (.ref a104) := (Sta.wr W101 (Sta.wr W90 (Sta.wr W79 (Sta.wr W68 (Sta.wr W57 (Sta.wr W46 (Sta.wr W35 (Sta.wr W24 (Sta.wr W12 (Sta.ext E2 F105))))))))))
  obtain ⟨T107, X107, e107, st107⟩ := getS2 X101 hx hZ hown (host := "") (Or.inl (ww hw 22 rfl)) Via.refl e101 f106 (g := (mkF m 65 (lc0 p1) [(.int 9), (.ref b2), (.ref b2)])) rfl (hb hby at_65)
  have f109 : Exa Z h101 a104 zs0 := (Exa.wr W101 (Exa.wr W90 (Exa.wr W79 (Exa.wr W68 (Exa.wr W57 (Exa.wr W46 (Exa.wr W35 (Exa.wr W24 (Exa.wr W12 (Exa.ext E2 F108))))))))))
  have f110 : Arv Z h101 b2 k2 (.object zs0) (14 : Int32) [(.ref a4), (.ref a16), (.ref a27), (.ref a38), (.ref a49), (.ref a60), (.ref a71), (.ref a82), (.ref a93), .null] .null := f103.pad (pad_rep [(.ref a4), (.ref a16), (.ref a27), (.ref a38), (.ref a49), (.ref a60), (.ref a71), (.ref a82), (.ref a93)] .null 1)
  obtain ⟨cl111, Ar111, q111, S111, N111, H111, G111⟩ := id f110
  have hin112 : ¬ ((9 : Int32) < 0 ∨ cl111.slots.size ≤ ((9 : Int32)).toNatClampNeg) := inb_of S111 ⟨by decide, by decide⟩
  obtain ⟨T112, h112, X112, e112, W112, st112⟩ := stR X107 hx hZ e107 Ar111 (j := (9 : Int32)) hin112 rfl (Sto.ofV Ar111 q111 O2 (Ins.self f109)) (g := (mkF m 68 (lc0 p1) [(.ref a104), (.int 9), (.ref b2), (.ref b2)])) rfl rfl (hb hby at_68)
  have N113 := Fr.snoc X112 N102 g13
  have f114 : Arv Z h112 b2 k2 (.object zs0) (14 : Int32) [(.ref a4), (.ref a16), (.ref a27), (.ref a38), (.ref a49), (.ref a60), (.ref a71), (.ref a82), (.ref a93), (.ref a104)] .null := Arv.set Ar111 q111 S111 N111 H111 G111 (by rfl) W112 9 rfl (Nat.le_of_ble_eq_true rfl)
  have f117 : Sta Z h112 zs0 "INVALID_TEXT" zs1 (.ref a115) := (Sta.wr W112 (Sta.wr W101 (Sta.wr W90 (Sta.wr W79 (Sta.wr W68 (Sta.wr W57 (Sta.wr W46 (Sta.wr W35 (Sta.wr W24 (Sta.wr W12 (Sta.ext E2 F116)))))))))))
  obtain ⟨T118, X118, e118, st118⟩ := getS2 X112 hx hZ hown (host := "") (Or.inl (ww hw 24 rfl)) Via.refl e112 f117 (g := (mkF m 72 (lc0 p1) [(.int 10), (.ref b2), (.ref b2)])) rfl (hb hby at_72)
  have f120 : Exa Z h112 a115 zs0 := (Exa.wr W112 (Exa.wr W101 (Exa.wr W90 (Exa.wr W79 (Exa.wr W68 (Exa.wr W57 (Exa.wr W46 (Exa.wr W35 (Exa.wr W24 (Exa.wr W12 (Exa.ext E2 F119)))))))))))
  have f121 : Arv Z h112 b2 k2 (.object zs0) (14 : Int32) [(.ref a4), (.ref a16), (.ref a27), (.ref a38), (.ref a49), (.ref a60), (.ref a71), (.ref a82), (.ref a93), (.ref a104), .null] .null := f114.pad (pad_rep [(.ref a4), (.ref a16), (.ref a27), (.ref a38), (.ref a49), (.ref a60), (.ref a71), (.ref a82), (.ref a93), (.ref a104)] .null 1)
  obtain ⟨cl122, Ar122, q122, S122, N122, H122, G122⟩ := id f121
  have hin123 : ¬ ((10 : Int32) < 0 ∨ cl122.slots.size ≤ ((10 : Int32)).toNatClampNeg) := inb_of S122 ⟨by decide, by decide⟩
  obtain ⟨T123, h123, X123, e123, W123, st123⟩ := stR X118 hx hZ e118 Ar122 (j := (10 : Int32)) hin123 rfl (Sto.ofV Ar122 q122 O2 (Ins.self f120)) (g := (mkF m 75 (lc0 p1) [(.ref a115), (.int 10), (.ref b2), (.ref b2)])) rfl rfl (hb hby at_75)
  have N124 := Fr.snoc X123 N113 g13
  have f125 : Arv Z h123 b2 k2 (.object zs0) (14 : Int32) [(.ref a4), (.ref a16), (.ref a27), (.ref a38), (.ref a49), (.ref a60), (.ref a71), (.ref a82), (.ref a93), (.ref a104), (.ref a115)] .null := Arv.set Ar122 q122 S122 N122 H122 G122 (by rfl) W123 10 rfl (Nat.le_of_ble_eq_true rfl)
  have f128 : Sta Z h123 zs0 zs11 zs1 (.ref a126) := (Sta.wr W123 (Sta.wr W112 (Sta.wr W101 (Sta.wr W90 (Sta.wr W79 (Sta.wr W68 (Sta.wr W57 (Sta.wr W46 (Sta.wr W35 (Sta.wr W24 (Sta.wr W12 (Sta.ext E2 F127))))))))))))
  obtain ⟨T129, X129, e129, st129⟩ := getS2 X123 hx hZ hown (host := "") (Or.inl (ww hw 26 rfl)) Via.refl e123 f128 (g := (mkF m 79 (lc0 p1) [(.int 11), (.ref b2), (.ref b2)])) rfl (hb hby at_79)
  have f131 : Exa Z h123 a126 zs0 := (Exa.wr W123 (Exa.wr W112 (Exa.wr W101 (Exa.wr W90 (Exa.wr W79 (Exa.wr W68 (Exa.wr W57 (Exa.wr W46 (Exa.wr W35 (Exa.wr W24 (Exa.wr W12 (Exa.ext E2 F130))))))))))))
  have f132 : Arv Z h123 b2 k2 (.object zs0) (14 : Int32) [(.ref a4), (.ref a16), (.ref a27), (.ref a38), (.ref a49), (.ref a60), (.ref a71), (.ref a82), (.ref a93), (.ref a104), (.ref a115), .null] .null := f125.pad (pad_rep [(.ref a4), (.ref a16), (.ref a27), (.ref a38), (.ref a49), (.ref a60), (.ref a71), (.ref a82), (.ref a93), (.ref a104), (.ref a115)] .null 1)
  obtain ⟨cl133, Ar133, q133, S133, N133, H133, G133⟩ := id f132
  have hin134 : ¬ ((11 : Int32) < 0 ∨ cl133.slots.size ≤ ((11 : Int32)).toNatClampNeg) := inb_of S133 ⟨by decide, by decide⟩
  obtain ⟨T134, h134, X134, e134, W134, st134⟩ := stR X129 hx hZ e129 Ar133 (j := (11 : Int32)) hin134 rfl (Sto.ofV Ar133 q133 O2 (Ins.self f131)) (g := (mkF m 82 (lc0 p1) [(.ref a126), (.int 11), (.ref b2), (.ref b2)])) rfl rfl (hb hby at_82)
  have N135 := Fr.snoc X134 N124 g13
  have f136 : Arv Z h134 b2 k2 (.object zs0) (14 : Int32) [(.ref a4), (.ref a16), (.ref a27), (.ref a38), (.ref a49), (.ref a60), (.ref a71), (.ref a82), (.ref a93), (.ref a104), (.ref a115), (.ref a126)] .null := Arv.set Ar133 q133 S133 N133 H133 G133 (by rfl) W134 11 rfl (Nat.le_of_ble_eq_true rfl)
  have f139 : Sta Z h134 zs0 zs12 zs1 (.ref a137) := (Sta.wr W134 (Sta.wr W123 (Sta.wr W112 (Sta.wr W101 (Sta.wr W90 (Sta.wr W79 (Sta.wr W68 (Sta.wr W57 (Sta.wr W46 (Sta.wr W35 (Sta.wr W24 (Sta.wr W12 (Sta.ext E2 F138)))))))))))))
  obtain ⟨T140, X140, e140, st140⟩ := getS2 X134 hx hZ hown (host := "") (Or.inl (ww hw 28 rfl)) Via.refl e134 f139 (g := (mkF m 86 (lc0 p1) [(.int 12), (.ref b2), (.ref b2)])) rfl (hb hby at_86)
  have f142 : Exa Z h134 a137 zs0 := (Exa.wr W134 (Exa.wr W123 (Exa.wr W112 (Exa.wr W101 (Exa.wr W90 (Exa.wr W79 (Exa.wr W68 (Exa.wr W57 (Exa.wr W46 (Exa.wr W35 (Exa.wr W24 (Exa.wr W12 (Exa.ext E2 F141)))))))))))))
  have f143 : Arv Z h134 b2 k2 (.object zs0) (14 : Int32) [(.ref a4), (.ref a16), (.ref a27), (.ref a38), (.ref a49), (.ref a60), (.ref a71), (.ref a82), (.ref a93), (.ref a104), (.ref a115), (.ref a126), .null] .null := f136.pad (pad_rep [(.ref a4), (.ref a16), (.ref a27), (.ref a38), (.ref a49), (.ref a60), (.ref a71), (.ref a82), (.ref a93), (.ref a104), (.ref a115), (.ref a126)] .null 1)
  obtain ⟨cl144, Ar144, q144, S144, N144, H144, G144⟩ := id f143
  have hin145 : ¬ ((12 : Int32) < 0 ∨ cl144.slots.size ≤ ((12 : Int32)).toNatClampNeg) := inb_of S144 ⟨by decide, by decide⟩
  obtain ⟨T145, h145, X145, e145, W145, st145⟩ := stR X140 hx hZ e140 Ar144 (j := (12 : Int32)) hin145 rfl (Sto.ofV Ar144 q144 O2 (Ins.self f142)) (g := (mkF m 89 (lc0 p1) [(.ref a137), (.int 12), (.ref b2), (.ref b2)])) rfl rfl (hb hby at_89)
  have N146 := Fr.snoc X145 N135 g13
  have f147 : Arv Z h145 b2 k2 (.object zs0) (14 : Int32) [(.ref a4), (.ref a16), (.ref a27), (.ref a38), (.ref a49), (.ref a60), (.ref a71), (.ref a82), (.ref a93), (.ref a104), (.ref a115), (.ref a126), (.ref a137)] .null := Arv.set Ar144 q144 S144 N144 H144 G144 (by rfl) W145 12 rfl (Nat.le_of_ble_eq_true rfl)
  have f150 : Sta Z h145 zs0 "UNKNOWN_ITEM" zs1 (.ref a148) := (Sta.wr W145 (Sta.wr W134 (Sta.wr W123 (Sta.wr W112 (Sta.wr W101 (Sta.wr W90 (Sta.wr W79 (Sta.wr W68 (Sta.wr W57 (Sta.wr W46 (Sta.wr W35 (Sta.wr W24 (Sta.wr W12 (Sta.ext E2 F149))))))))))))))
  obtain ⟨T151, X151, e151, st151⟩ := getS2 X145 hx hZ hown (host := "") (Or.inl (ww hw 30 rfl)) Via.refl e145 f150 (g := (mkF m 93 (lc0 p1) [(.int 13), (.ref b2), (.ref b2)])) rfl (hb hby at_93)
  have f153 : Exa Z h145 a148 zs0 := (Exa.wr W145 (Exa.wr W134 (Exa.wr W123 (Exa.wr W112 (Exa.wr W101 (Exa.wr W90 (Exa.wr W79 (Exa.wr W68 (Exa.wr W57 (Exa.wr W46 (Exa.wr W35 (Exa.wr W24 (Exa.wr W12 (Exa.ext E2 F152))))))))))))))
  have f154 : Arv Z h145 b2 k2 (.object zs0) (14 : Int32) [(.ref a4), (.ref a16), (.ref a27), (.ref a38), (.ref a49), (.ref a60), (.ref a71), (.ref a82), (.ref a93), (.ref a104), (.ref a115), (.ref a126), (.ref a137), .null] .null := f147.pad (pad_rep [(.ref a4), (.ref a16), (.ref a27), (.ref a38), (.ref a49), (.ref a60), (.ref a71), (.ref a82), (.ref a93), (.ref a104), (.ref a115), (.ref a126), (.ref a137)] .null 1)
  obtain ⟨cl155, Ar155, q155, S155, N155, H155, G155⟩ := id f154
  have hin156 : ¬ ((13 : Int32) < 0 ∨ cl155.slots.size ≤ ((13 : Int32)).toNatClampNeg) := inb_of S155 ⟨by decide, by decide⟩
  obtain ⟨T156, h156, X156, e156, W156, st156⟩ := stR X151 hx hZ e151 Ar155 (j := (13 : Int32)) hin156 rfl (Sto.ofV Ar155 q155 O2 (Ins.self f153)) (g := (mkF m 96 (lc0 p1) [(.ref a148), (.int 13), (.ref b2), (.ref b2)])) rfl rfl (hb hby at_96)
  have N157 := Fr.snoc X156 N146 g13
  have f158 : Arv Z h156 b2 k2 (.object zs0) (14 : Int32) [(.ref a4), (.ref a16), (.ref a27), (.ref a38), (.ref a49), (.ref a60), (.ref a71), (.ref a82), (.ref a93), (.ref a104), (.ref a115), (.ref a126), (.ref a137), (.ref a148)] .null := Arv.set Ar155 q155 S155 N155 H155 G155 (by rfl) W156 13 rfl (Nat.le_of_ble_eq_true rfl)
  refine own_go (U' := T156.setTop (mkF m 105 (lc1 p1 b2) [(.int ((p1 &&& (2147483647 : Int32)) % (14 : Int32)))])) (fun t k => obipush X0 hx hby at_0 (st2 _ (odup X2 hx hby at_5 rfl (oiconst X2 hx hby at_6 (st7 _ (st12 _ (odup X12 hx hby at_11 rfl (oiconst X12 hx hby at_12 (st19 _ (st24 _ (odup X24 hx hby at_17 rfl (oiconst X24 hx hby at_18 (st30 _ (st35 _ (odup X35 hx hby at_23 rfl (oiconst X35 hx hby at_24 (st41 _ (st46 _ (odup X46 hx hby at_29 rfl (oiconst X46 hx hby at_30 (st52 _ (st57 _ (odup X57 hx hby at_35 rfl (oiconst X57 hx hby at_36 (st63 _ (st68 _ (odup X68 hx hby at_41 rfl (obipush X68 hx hby at_42 (st74 _ (st79 _ (odup X79 hx hby at_48 rfl (obipush X79 hx hby at_49 (st85 _ (st90 _ (odup X90 hx hby at_55 rfl (obipush X90 hx hby at_56 (st96 _ (st101 _ (odup X101 hx hby at_62 rfl (obipush X101 hx hby at_63 (st107 _ (st112 _ (odup X112 hx hby at_69 rfl (obipush X112 hx hby at_70 (st118 _ (st123 _ (odup X123 hx hby at_76 rfl (obipush X123 hx hby at_77 (st129 _ (st134 _ (odup X134 hx hby at_83 rfl (obipush X134 hx hby at_84 (st140 _ (st145 _ (odup X145 hx hby at_90 rfl (obipush X145 hx hby at_91 (st151 _ (st156 _ (oastoreN X156 hx hby at_97 (lc1 p1 b2) rfl rfl (oiloadN X156 hx hby at_98 rfl (X156.ldcInt hx hown (mvT hZ (ww hw 32 rfl)) (g := (mkF m 99 (lc1 p1 b2) [(.int p1)])) rfl (hb hby at_99) _ (oiand X156 hx hby at_101 (obipush X156 hx hby at_102 (oirem X156 hx hby at_104 (by decide) k)))))))))))))))))))))))))))))))))))))))))))))))))))))))))))))))) ?_
  rw [hv159]
  obtain ⟨cl160, Ar160, q160, S160, N160, H160, G160⟩ := id f158
  have hin161 : ¬ ((0 : Int32) < 0 ∨ cl160.slots.size ≤ ((0 : Int32)).toNatClampNeg) := inb_of S160 ⟨by decide, by decide⟩
  have hat161 : cl160.slots[((0 : Int32)).toNatClampNeg]? = some (.ref a4) := Has.at H160 hin161 rfl
  refine own_go (U' := T156.setTop (mkF m 113 (lc3 p1 b2 0 a4) [(.int 9), (.int 0)])) (fun t k => oistoreN X156 hx hby at_105 (lc2 p1 b2 0) rfl (oaloadN X156 hx hby at_106 rfl rfl (oiloadN X156 hx hby at_107 rfl (X156.aaload hx (j := (0 : Int32)) (v := (.ref a4)) (by rw [e156]; exact Ar160.1) (State.isArrayOf_alike hZ.alike Ar160.2.1) rfl Ar160.2.2 hin161 hat161 (g := (mkF m 108 (lc2 p1 b2 0) [(.int 0), (.ref b2)])) rfl rfl (hb hby at_108) _ (oastoreN X156 hx hby at_109 (lc3 p1 b2 0 a4) rfl rfl (oiloadN X156 hx hby at_110 rfl (obipush X156 hx hby at_111 k))))))) ?_
  refine own_go (U' := T156.setTop (mkF m 119 (lc3 p1 b2 0 a4) [(.int 10), (.int 0)])) (fun t k => oicN X156 hx hby at_113 (by decide) (oiloadN X156 hx hby at_116 rfl (obipush X156 hx hby at_117 k))) ?_
  have f163 : Exa Z h156 a4 zs0 := (Exa.wr W156 (Exa.wr W145 (Exa.wr W134 (Exa.wr W123 (Exa.wr W112 (Exa.wr W101 (Exa.wr W90 (Exa.wr W79 (Exa.wr W68 (Exa.wr W57 (Exa.wr W46 (Exa.wr W35 (Exa.wr W24 (Exa.wr W12 f9))))))))))))))
  have f164 : Sta Z h156 zs0 "INVALID_JSON" zs1 (.ref a104) := (Sta.wr W156 (Sta.wr W145 (Sta.wr W134 (Sta.wr W123 (Sta.wr W112 f106)))))
  have f166 : Sta Z h156 zs0 "INVALID_TEXT" zs1 (.ref a115) := (Sta.wr W156 (Sta.wr W145 (Sta.wr W134 (Sta.wr W123 f117))))
  have Z_1 : n0 ≤ h2.size := Nat.le_trans Z0 E2.1
  have Z_2 : n0 ≤ h12.size := Nat.le_trans Z_1 (Keep.of_wr W12).1
  have Z_3 : n0 ≤ h24.size := Nat.le_trans Z_2 (Keep.of_wr W24).1
  have Z_4 : n0 ≤ h35.size := Nat.le_trans Z_3 (Keep.of_wr W35).1
  have Z_5 : n0 ≤ h46.size := Nat.le_trans Z_4 (Keep.of_wr W46).1
  have Z_6 : n0 ≤ h57.size := Nat.le_trans Z_5 (Keep.of_wr W57).1
  have Z_7 : n0 ≤ h68.size := Nat.le_trans Z_6 (Keep.of_wr W68).1
  have Z_8 : n0 ≤ h79.size := Nat.le_trans Z_7 (Keep.of_wr W79).1
  have Z_9 : n0 ≤ h90.size := Nat.le_trans Z_8 (Keep.of_wr W90).1
  have Z_10 : n0 ≤ h101.size := Nat.le_trans Z_9 (Keep.of_wr W101).1
  have Z_11 : n0 ≤ h112.size := Nat.le_trans Z_10 (Keep.of_wr W112).1
  have Z_12 : n0 ≤ h123.size := Nat.le_trans Z_11 (Keep.of_wr W123).1
  have Z_13 : n0 ≤ h134.size := Nat.le_trans Z_12 (Keep.of_wr W134).1
  have Z_14 : n0 ≤ h145.size := Nat.le_trans Z_13 (Keep.of_wr W145).1
  have Z_15 : n0 ≤ h156.size := Nat.le_trans Z_14 (Keep.of_wr W156).1
  obtain ⟨_, T162, L162, X162, hQ162, st162⟩ := ocallV X156 hx hZ zm0 zm0 hown (ww hw 33 rfl) (ww hw 34 rfl) (notFace_of_selects (args := #[]) (mvT hZ (ww hw 36 rfl))) (ww hw 36 rfl) (ww hw 35 rfl) (by decide) (ww hw 37 rfl) (ww hw 3 rfl) e156 f163 (rm1_0 l Z a0 hw [] a4 a104 a115 h156 n0 Z_15 f164 ha165 f166 ha167) (st := [(.ref a4)]) rfl 0 rfl (by decide) (pc := 130) (Ls := (lc4 p1 b2 0 a4 0)) hml rfl (lenOf pd_0 rfl) at_130 hby
  obtain ⟨rfl, N162q, e162⟩ := hQ162
  have N168 := Fr.app N157 N162q
  refine own_go (U' := T162.setTop (mkF m 135 (lc4 p1 b2 0 a4 0) [(.int 0), (.int 0)])) (fun t k => oicY (pc := 119) X156 hx hby at_119 126 (by decide) (by decide) (oiconst X156 hx hby at_126 (oistore X156 hx hby at_127 (lc4 p1 b2 0 a4 0) rfl (oaloadN X156 hx hby at_129 rfl rfl (st162 _ (oiload X162 hx hby at_133 rfl k)))))) ?_
  refine own_go (U' := T162.setTop (mkF m 143 (lc4 p1 b2 0 a4 0) [(.int 1)])) (fun t k => oicN X162 hx hby at_135 (by decide) (oiconst X162 hx hby at_138 (ogoto (pc := 139) X162 hx hby at_139 143 (by decide) k))) ?_
  obtain ⟨fs, hr, hrun, hended, hW, hsame⟩ := X162.leave (v := some (.int 1)) (fun h => by rw [Bd.returns] at h; cases h)
  refine own_out ⟨_, _, ?_, hrun, hended, _, _, rfl, ?_, ⟨_, rfl⟩, hW, hsame.mono (by decide) (by decide)⟩
  · exact retN X162 hx (t := .boolean) Bd.returns (by simp) (hb hby at_143) hr
  · exact ⟨rfl, N168⟩
set_option maxRecDepth 65536 in
set_option maxHeartbeats 40000000 in
theorem rm0_2 (l : Launch) (Z : State) (a0 : Array Value) (hw : ∀ d ∈ tables_1, d.before a0 Z = true) (ws : List Jvm.Cond) (p1 : Int32) (a4 : Addr) (a16 : Addr) (a27 : Addr) (a38 : Addr) (a49 : Addr) (a60 : Addr) (a71 : Addr) (a82 : Addr) (a93 : Addr) (a104 : Addr) (a115 : Addr) (a126 : Addr) (a137 : Addr) (a148 : Addr) (h0 : Heap) (n0 : Nat) (Z0 : n0 ≤ h0.size) (F5 : Sta Z h0 zs0 zs2 zs1 (.ref a4)) (F8 : Exa Z h0 a4 zs0) (F17 : Sta Z h0 zs0 zs3 zs1 (.ref a16)) (F20 : Exa Z h0 a16 zs0) (F28 : Sta Z h0 zs0 zs4 zs1 (.ref a27)) (F31 : Exa Z h0 a27 zs0) (F39 : Sta Z h0 zs0 zs5 zs1 (.ref a38)) (F42 : Exa Z h0 a38 zs0) (F50 : Sta Z h0 zs0 zs6 zs1 (.ref a49)) (F53 : Exa Z h0 a49 zs0) (F61 : Sta Z h0 zs0 zs7 zs1 (.ref a60)) (F64 : Exa Z h0 a60 zs0) (F72 : Sta Z h0 zs0 zs8 zs1 (.ref a71)) (F75 : Exa Z h0 a71 zs0) (F83 : Sta Z h0 zs0 zs9 zs1 (.ref a82)) (F86 : Exa Z h0 a82 zs0) (F94 : Sta Z h0 zs0 zs10 zs1 (.ref a93)) (F97 : Exa Z h0 a93 zs0) (F105 : Sta Z h0 zs0 "INVALID_JSON" zs1 (.ref a104)) (F108 : Exa Z h0 a104 zs0) (F116 : Sta Z h0 zs0 "INVALID_TEXT" zs1 (.ref a115)) (F119 : Exa Z h0 a115 zs0) (F127 : Sta Z h0 zs0 zs11 zs1 (.ref a126)) (F130 : Exa Z h0 a126 zs0) (F138 : Sta Z h0 zs0 zs12 zs1 (.ref a137)) (F141 : Exa Z h0 a137 zs0) (F149 : Sta Z h0 zs0 "UNKNOWN_ITEM" zs1 (.ref a148)) (F152 : Exa Z h0 a148 zs0) (hv159 : ((p1 &&& (2147483647 : Int32)) % (14 : Int32)) = (1 : Int32)) (ha165 : a16 ≠ a104) (ha167 : a16 ≠ a115) :
    MetFree l x (head1 (Jvm.Cond.code x code maxLocals ret :: ws) room_1) (fun a U => a = #[(.int p1)] ∧ Z.Warmed39 U.vm ∧ U.heap = h0) (fun _ _ _ _ _ => True) (fun _ U o U' => ∃ v L, o = .returned v ∧ QLaw n0 v U'.heap L ∧ FrameEnd U o U' L room_1.cells room_1.slots) := by
  refine MetFree.of_bodySF (plainFor_of_name pn_com_example_strict_ledger_strictledger_RefusalCodeIsAboutTextPinLaw) hisR ?_
  intro p e s m args below meth c s₁ Bd hml0 hP hK
  obtain ⟨rfl, hZ, hh⟩ := hP
  have hx := Bd.exec
  have hby := Bd.bytes
  have hml : c.maxLocals = 5 := hml0
  have hown : s.vm.findClass zs13 = some m.cls := findClass_of_methodNamed Bd.named
  have hnm := (name_of_methodNamed Bd.named Bd.method).1
  have X0 : Stand p l e room_1 s m #[(.int p1)] below meth c s₁ [] 0 0 := Stand.of_body Bd
  have e0 : s₁.heap = h0 := by rw [← hh, Bd.state]; rfl
  have N0 := Fr.nil n0
  refine own_pre (g' := mkF m 0 (lc0 p1) []) (ef_1 m p1) ?_
  obtain ⟨T2, h2, k2, X2, e2, E2, A2, B2, O2, st2⟩ := newRE X0 hx hZ hown (ww hw 0 rfl) (ww hw 1 rfl) e0 (g := (mkF m 2 (lc0 p1) [(.int 14)])) rfl (hb hby at_2) rfl (by decide) (cap := 14) (by decide) (by decide) (by decide) (by decide) (ad := zs14) (by decide)
  obtain ⟨b2, g2⟩ : ∃ z, z = h0.size := ⟨_, rfl⟩
  rw [← g2] at A2 B2 st2
  have f3 : Arv Z h2 b2 k2 (.object zs0) (14 : Int32) [] .null := Arv.new A2 (by decide)
  have f6 : Sta Z h2 zs0 zs2 zs1 (.ref a4) := (Sta.ext E2 F5)
  obtain ⟨T7, X7, e7, st7⟩ := getS2 X2 hx hZ hown (host := "") (Or.inl (ww hw 2 rfl)) Via.refl e2 f6 (g := (mkF m 7 (lc0 p1) [(.int 0), (.ref b2), (.ref b2)])) rfl (hb hby at_7)
  have f9 : Exa Z h2 a4 zs0 := (Exa.ext E2 F8)
  have f10 : Arv Z h2 b2 k2 (.object zs0) (14 : Int32) [.null] .null := f3.pad (pad_rep [] .null 1)
  obtain ⟨cl11, Ar11, q11, S11, N11, H11, G11⟩ := id f10
  have g13 : n0 ≤ b2 := Nat.le_trans Z0 (Nat.le_of_eq g2.symm)
  have hin12 : ¬ ((0 : Int32) < 0 ∨ cl11.slots.size ≤ ((0 : Int32)).toNatClampNeg) := inb_of S11 ⟨by decide, by decide⟩
  obtain ⟨T12, h12, X12, e12, W12, st12⟩ := stR X7 hx hZ e7 Ar11 (j := (0 : Int32)) hin12 rfl (Sto.ofV Ar11 q11 O2 (Ins.self f9)) (g := (mkF m 10 (lc0 p1) [(.ref a4), (.int 0), (.ref b2), (.ref b2)])) rfl rfl (hb hby at_10)
  have N14 := Fr.snoc X12 N0 g13
  have f15 : Arv Z h12 b2 k2 (.object zs0) (14 : Int32) [(.ref a4)] .null := Arv.set Ar11 q11 S11 N11 H11 G11 (by rfl) W12 0 rfl (Nat.le_of_ble_eq_true rfl)
  have f18 : Sta Z h12 zs0 zs3 zs1 (.ref a16) := (Sta.wr W12 (Sta.ext E2 F17))
  obtain ⟨T19, X19, e19, st19⟩ := getS2 X12 hx hZ hown (host := "") (Or.inl (ww hw 6 rfl)) Via.refl e12 f18 (g := (mkF m 13 (lc0 p1) [(.int 1), (.ref b2), (.ref b2)])) rfl (hb hby at_13)
  have f21 : Exa Z h12 a16 zs0 := (Exa.wr W12 (Exa.ext E2 F20))
  have f22 : Arv Z h12 b2 k2 (.object zs0) (14 : Int32) [(.ref a4), .null] .null := f15.pad (pad_rep [(.ref a4)] .null 1)
  obtain ⟨cl23, Ar23, q23, S23, N23, H23, G23⟩ := id f22
  have hin24 : ¬ ((1 : Int32) < 0 ∨ cl23.slots.size ≤ ((1 : Int32)).toNatClampNeg) := inb_of S23 ⟨by decide, by decide⟩
  obtain ⟨T24, h24, X24, e24, W24, st24⟩ := stR X19 hx hZ e19 Ar23 (j := (1 : Int32)) hin24 rfl (Sto.ofV Ar23 q23 O2 (Ins.self f21)) (g := (mkF m 16 (lc0 p1) [(.ref a16), (.int 1), (.ref b2), (.ref b2)])) rfl rfl (hb hby at_16)
  have N25 := Fr.snoc X24 N14 g13
  have f26 : Arv Z h24 b2 k2 (.object zs0) (14 : Int32) [(.ref a4), (.ref a16)] .null := Arv.set Ar23 q23 S23 N23 H23 G23 (by rfl) W24 1 rfl (Nat.le_of_ble_eq_true rfl)
  have f29 : Sta Z h24 zs0 zs4 zs1 (.ref a27) := (Sta.wr W24 (Sta.wr W12 (Sta.ext E2 F28)))
  obtain ⟨T30, X30, e30, st30⟩ := getS2 X24 hx hZ hown (host := "") (Or.inl (ww hw 8 rfl)) Via.refl e24 f29 (g := (mkF m 19 (lc0 p1) [(.int 2), (.ref b2), (.ref b2)])) rfl (hb hby at_19)
  have f32 : Exa Z h24 a27 zs0 := (Exa.wr W24 (Exa.wr W12 (Exa.ext E2 F31)))
  have f33 : Arv Z h24 b2 k2 (.object zs0) (14 : Int32) [(.ref a4), (.ref a16), .null] .null := f26.pad (pad_rep [(.ref a4), (.ref a16)] .null 1)
  obtain ⟨cl34, Ar34, q34, S34, N34, H34, G34⟩ := id f33
  have hin35 : ¬ ((2 : Int32) < 0 ∨ cl34.slots.size ≤ ((2 : Int32)).toNatClampNeg) := inb_of S34 ⟨by decide, by decide⟩
  obtain ⟨T35, h35, X35, e35, W35, st35⟩ := stR X30 hx hZ e30 Ar34 (j := (2 : Int32)) hin35 rfl (Sto.ofV Ar34 q34 O2 (Ins.self f32)) (g := (mkF m 22 (lc0 p1) [(.ref a27), (.int 2), (.ref b2), (.ref b2)])) rfl rfl (hb hby at_22)
  have N36 := Fr.snoc X35 N25 g13
  have f37 : Arv Z h35 b2 k2 (.object zs0) (14 : Int32) [(.ref a4), (.ref a16), (.ref a27)] .null := Arv.set Ar34 q34 S34 N34 H34 G34 (by rfl) W35 2 rfl (Nat.le_of_ble_eq_true rfl)
  have f40 : Sta Z h35 zs0 zs5 zs1 (.ref a38) := (Sta.wr W35 (Sta.wr W24 (Sta.wr W12 (Sta.ext E2 F39))))
  obtain ⟨T41, X41, e41, st41⟩ := getS2 X35 hx hZ hown (host := "") (Or.inl (ww hw 10 rfl)) Via.refl e35 f40 (g := (mkF m 25 (lc0 p1) [(.int 3), (.ref b2), (.ref b2)])) rfl (hb hby at_25)
  have f43 : Exa Z h35 a38 zs0 := (Exa.wr W35 (Exa.wr W24 (Exa.wr W12 (Exa.ext E2 F42))))
  have f44 : Arv Z h35 b2 k2 (.object zs0) (14 : Int32) [(.ref a4), (.ref a16), (.ref a27), .null] .null := f37.pad (pad_rep [(.ref a4), (.ref a16), (.ref a27)] .null 1)
  obtain ⟨cl45, Ar45, q45, S45, N45, H45, G45⟩ := id f44
  have hin46 : ¬ ((3 : Int32) < 0 ∨ cl45.slots.size ≤ ((3 : Int32)).toNatClampNeg) := inb_of S45 ⟨by decide, by decide⟩
  obtain ⟨T46, h46, X46, e46, W46, st46⟩ := stR X41 hx hZ e41 Ar45 (j := (3 : Int32)) hin46 rfl (Sto.ofV Ar45 q45 O2 (Ins.self f43)) (g := (mkF m 28 (lc0 p1) [(.ref a38), (.int 3), (.ref b2), (.ref b2)])) rfl rfl (hb hby at_28)
  have N47 := Fr.snoc X46 N36 g13
  have f48 : Arv Z h46 b2 k2 (.object zs0) (14 : Int32) [(.ref a4), (.ref a16), (.ref a27), (.ref a38)] .null := Arv.set Ar45 q45 S45 N45 H45 G45 (by rfl) W46 3 rfl (Nat.le_of_ble_eq_true rfl)
  have f51 : Sta Z h46 zs0 zs6 zs1 (.ref a49) := (Sta.wr W46 (Sta.wr W35 (Sta.wr W24 (Sta.wr W12 (Sta.ext E2 F50)))))
  obtain ⟨T52, X52, e52, st52⟩ := getS2 X46 hx hZ hown (host := "") (Or.inl (ww hw 12 rfl)) Via.refl e46 f51 (g := (mkF m 31 (lc0 p1) [(.int 4), (.ref b2), (.ref b2)])) rfl (hb hby at_31)
  have f54 : Exa Z h46 a49 zs0 := (Exa.wr W46 (Exa.wr W35 (Exa.wr W24 (Exa.wr W12 (Exa.ext E2 F53)))))
  have f55 : Arv Z h46 b2 k2 (.object zs0) (14 : Int32) [(.ref a4), (.ref a16), (.ref a27), (.ref a38), .null] .null := f48.pad (pad_rep [(.ref a4), (.ref a16), (.ref a27), (.ref a38)] .null 1)
  obtain ⟨cl56, Ar56, q56, S56, N56, H56, G56⟩ := id f55
  have hin57 : ¬ ((4 : Int32) < 0 ∨ cl56.slots.size ≤ ((4 : Int32)).toNatClampNeg) := inb_of S56 ⟨by decide, by decide⟩
  obtain ⟨T57, h57, X57, e57, W57, st57⟩ := stR X52 hx hZ e52 Ar56 (j := (4 : Int32)) hin57 rfl (Sto.ofV Ar56 q56 O2 (Ins.self f54)) (g := (mkF m 34 (lc0 p1) [(.ref a49), (.int 4), (.ref b2), (.ref b2)])) rfl rfl (hb hby at_34)
  have N58 := Fr.snoc X57 N47 g13
  have f59 : Arv Z h57 b2 k2 (.object zs0) (14 : Int32) [(.ref a4), (.ref a16), (.ref a27), (.ref a38), (.ref a49)] .null := Arv.set Ar56 q56 S56 N56 H56 G56 (by rfl) W57 4 rfl (Nat.le_of_ble_eq_true rfl)
  have f62 : Sta Z h57 zs0 zs7 zs1 (.ref a60) := (Sta.wr W57 (Sta.wr W46 (Sta.wr W35 (Sta.wr W24 (Sta.wr W12 (Sta.ext E2 F61))))))
  obtain ⟨T63, X63, e63, st63⟩ := getS2 X57 hx hZ hown (host := "") (Or.inl (ww hw 14 rfl)) Via.refl e57 f62 (g := (mkF m 37 (lc0 p1) [(.int 5), (.ref b2), (.ref b2)])) rfl (hb hby at_37)
  have f65 : Exa Z h57 a60 zs0 := (Exa.wr W57 (Exa.wr W46 (Exa.wr W35 (Exa.wr W24 (Exa.wr W12 (Exa.ext E2 F64))))))
  have f66 : Arv Z h57 b2 k2 (.object zs0) (14 : Int32) [(.ref a4), (.ref a16), (.ref a27), (.ref a38), (.ref a49), .null] .null := f59.pad (pad_rep [(.ref a4), (.ref a16), (.ref a27), (.ref a38), (.ref a49)] .null 1)
  obtain ⟨cl67, Ar67, q67, S67, N67, H67, G67⟩ := id f66
  have hin68 : ¬ ((5 : Int32) < 0 ∨ cl67.slots.size ≤ ((5 : Int32)).toNatClampNeg) := inb_of S67 ⟨by decide, by decide⟩
  obtain ⟨T68, h68, X68, e68, W68, st68⟩ := stR X63 hx hZ e63 Ar67 (j := (5 : Int32)) hin68 rfl (Sto.ofV Ar67 q67 O2 (Ins.self f65)) (g := (mkF m 40 (lc0 p1) [(.ref a60), (.int 5), (.ref b2), (.ref b2)])) rfl rfl (hb hby at_40)
  have N69 := Fr.snoc X68 N58 g13
  have f70 : Arv Z h68 b2 k2 (.object zs0) (14 : Int32) [(.ref a4), (.ref a16), (.ref a27), (.ref a38), (.ref a49), (.ref a60)] .null := Arv.set Ar67 q67 S67 N67 H67 G67 (by rfl) W68 5 rfl (Nat.le_of_ble_eq_true rfl)
  have f73 : Sta Z h68 zs0 zs8 zs1 (.ref a71) := (Sta.wr W68 (Sta.wr W57 (Sta.wr W46 (Sta.wr W35 (Sta.wr W24 (Sta.wr W12 (Sta.ext E2 F72)))))))
  obtain ⟨T74, X74, e74, st74⟩ := getS2 X68 hx hZ hown (host := "") (Or.inl (ww hw 16 rfl)) Via.refl e68 f73 (g := (mkF m 44 (lc0 p1) [(.int 6), (.ref b2), (.ref b2)])) rfl (hb hby at_44)
  have f76 : Exa Z h68 a71 zs0 := (Exa.wr W68 (Exa.wr W57 (Exa.wr W46 (Exa.wr W35 (Exa.wr W24 (Exa.wr W12 (Exa.ext E2 F75)))))))
  have f77 : Arv Z h68 b2 k2 (.object zs0) (14 : Int32) [(.ref a4), (.ref a16), (.ref a27), (.ref a38), (.ref a49), (.ref a60), .null] .null := f70.pad (pad_rep [(.ref a4), (.ref a16), (.ref a27), (.ref a38), (.ref a49), (.ref a60)] .null 1)
  obtain ⟨cl78, Ar78, q78, S78, N78, H78, G78⟩ := id f77
  have hin79 : ¬ ((6 : Int32) < 0 ∨ cl78.slots.size ≤ ((6 : Int32)).toNatClampNeg) := inb_of S78 ⟨by decide, by decide⟩
  obtain ⟨T79, h79, X79, e79, W79, st79⟩ := stR X74 hx hZ e74 Ar78 (j := (6 : Int32)) hin79 rfl (Sto.ofV Ar78 q78 O2 (Ins.self f76)) (g := (mkF m 47 (lc0 p1) [(.ref a71), (.int 6), (.ref b2), (.ref b2)])) rfl rfl (hb hby at_47)
  have N80 := Fr.snoc X79 N69 g13
  have f81 : Arv Z h79 b2 k2 (.object zs0) (14 : Int32) [(.ref a4), (.ref a16), (.ref a27), (.ref a38), (.ref a49), (.ref a60), (.ref a71)] .null := Arv.set Ar78 q78 S78 N78 H78 G78 (by rfl) W79 6 rfl (Nat.le_of_ble_eq_true rfl)
  have f84 : Sta Z h79 zs0 zs9 zs1 (.ref a82) := (Sta.wr W79 (Sta.wr W68 (Sta.wr W57 (Sta.wr W46 (Sta.wr W35 (Sta.wr W24 (Sta.wr W12 (Sta.ext E2 F83))))))))
  obtain ⟨T85, X85, e85, st85⟩ := getS2 X79 hx hZ hown (host := "") (Or.inl (ww hw 18 rfl)) Via.refl e79 f84 (g := (mkF m 51 (lc0 p1) [(.int 7), (.ref b2), (.ref b2)])) rfl (hb hby at_51)
  have f87 : Exa Z h79 a82 zs0 := (Exa.wr W79 (Exa.wr W68 (Exa.wr W57 (Exa.wr W46 (Exa.wr W35 (Exa.wr W24 (Exa.wr W12 (Exa.ext E2 F86))))))))
  have f88 : Arv Z h79 b2 k2 (.object zs0) (14 : Int32) [(.ref a4), (.ref a16), (.ref a27), (.ref a38), (.ref a49), (.ref a60), (.ref a71), .null] .null := f81.pad (pad_rep [(.ref a4), (.ref a16), (.ref a27), (.ref a38), (.ref a49), (.ref a60), (.ref a71)] .null 1)
  obtain ⟨cl89, Ar89, q89, S89, N89, H89, G89⟩ := id f88
  have hin90 : ¬ ((7 : Int32) < 0 ∨ cl89.slots.size ≤ ((7 : Int32)).toNatClampNeg) := inb_of S89 ⟨by decide, by decide⟩
  obtain ⟨T90, h90, X90, e90, W90, st90⟩ := stR X85 hx hZ e85 Ar89 (j := (7 : Int32)) hin90 rfl (Sto.ofV Ar89 q89 O2 (Ins.self f87)) (g := (mkF m 54 (lc0 p1) [(.ref a82), (.int 7), (.ref b2), (.ref b2)])) rfl rfl (hb hby at_54)
  have N91 := Fr.snoc X90 N80 g13
  have f92 : Arv Z h90 b2 k2 (.object zs0) (14 : Int32) [(.ref a4), (.ref a16), (.ref a27), (.ref a38), (.ref a49), (.ref a60), (.ref a71), (.ref a82)] .null := Arv.set Ar89 q89 S89 N89 H89 G89 (by rfl) W90 7 rfl (Nat.le_of_ble_eq_true rfl)
  have f95 : Sta Z h90 zs0 zs10 zs1 (.ref a93) := (Sta.wr W90 (Sta.wr W79 (Sta.wr W68 (Sta.wr W57 (Sta.wr W46 (Sta.wr W35 (Sta.wr W24 (Sta.wr W12 (Sta.ext E2 F94)))))))))
  obtain ⟨T96, X96, e96, st96⟩ := getS2 X90 hx hZ hown (host := "") (Or.inl (ww hw 20 rfl)) Via.refl e90 f95 (g := (mkF m 58 (lc0 p1) [(.int 8), (.ref b2), (.ref b2)])) rfl (hb hby at_58)
  have f98 : Exa Z h90 a93 zs0 := (Exa.wr W90 (Exa.wr W79 (Exa.wr W68 (Exa.wr W57 (Exa.wr W46 (Exa.wr W35 (Exa.wr W24 (Exa.wr W12 (Exa.ext E2 F97)))))))))
  have f99 : Arv Z h90 b2 k2 (.object zs0) (14 : Int32) [(.ref a4), (.ref a16), (.ref a27), (.ref a38), (.ref a49), (.ref a60), (.ref a71), (.ref a82), .null] .null := f92.pad (pad_rep [(.ref a4), (.ref a16), (.ref a27), (.ref a38), (.ref a49), (.ref a60), (.ref a71), (.ref a82)] .null 1)
  obtain ⟨cl100, Ar100, q100, S100, N100, H100, G100⟩ := id f99
  have hin101 : ¬ ((8 : Int32) < 0 ∨ cl100.slots.size ≤ ((8 : Int32)).toNatClampNeg) := inb_of S100 ⟨by decide, by decide⟩
  obtain ⟨T101, h101, X101, e101, W101, st101⟩ := stR X96 hx hZ e96 Ar100 (j := (8 : Int32)) hin101 rfl (Sto.ofV Ar100 q100 O2 (Ins.self f98)) (g := (mkF m 61 (lc0 p1) [(.ref a93), (.int 8), (.ref b2), (.ref b2)])) rfl rfl (hb hby at_61)
  have N102 := Fr.snoc X101 N91 g13
  have f103 : Arv Z h101 b2 k2 (.object zs0) (14 : Int32) [(.ref a4), (.ref a16), (.ref a27), (.ref a38), (.ref a49), (.ref a60), (.ref a71), (.ref a82), (.ref a93)] .null := Arv.set Ar100 q100 S100 N100 H100 G100 (by rfl) W101 8 rfl (Nat.le_of_ble_eq_true rfl)
  have f106 : Sta Z h101 zs0 "INVALID_JSON" zs1 (.ref a104) := (Sta.wr W101 (Sta.wr W90 (Sta.wr W79 (Sta.wr W68 (Sta.wr W57 (Sta.wr W46 (Sta.wr W35 (Sta.wr W24 (Sta.wr W12 (Sta.ext E2 F105))))))))))
  obtain ⟨T107, X107, e107, st107⟩ := getS2 X101 hx hZ hown (host := "") (Or.inl (ww hw 22 rfl)) Via.refl e101 f106 (g := (mkF m 65 (lc0 p1) [(.int 9), (.ref b2), (.ref b2)])) rfl (hb hby at_65)
  have f109 : Exa Z h101 a104 zs0 := (Exa.wr W101 (Exa.wr W90 (Exa.wr W79 (Exa.wr W68 (Exa.wr W57 (Exa.wr W46 (Exa.wr W35 (Exa.wr W24 (Exa.wr W12 (Exa.ext E2 F108))))))))))
  have f110 : Arv Z h101 b2 k2 (.object zs0) (14 : Int32) [(.ref a4), (.ref a16), (.ref a27), (.ref a38), (.ref a49), (.ref a60), (.ref a71), (.ref a82), (.ref a93), .null] .null := f103.pad (pad_rep [(.ref a4), (.ref a16), (.ref a27), (.ref a38), (.ref a49), (.ref a60), (.ref a71), (.ref a82), (.ref a93)] .null 1)
  obtain ⟨cl111, Ar111, q111, S111, N111, H111, G111⟩ := id f110
  have hin112 : ¬ ((9 : Int32) < 0 ∨ cl111.slots.size ≤ ((9 : Int32)).toNatClampNeg) := inb_of S111 ⟨by decide, by decide⟩
  obtain ⟨T112, h112, X112, e112, W112, st112⟩ := stR X107 hx hZ e107 Ar111 (j := (9 : Int32)) hin112 rfl (Sto.ofV Ar111 q111 O2 (Ins.self f109)) (g := (mkF m 68 (lc0 p1) [(.ref a104), (.int 9), (.ref b2), (.ref b2)])) rfl rfl (hb hby at_68)
  have N113 := Fr.snoc X112 N102 g13
  have f114 : Arv Z h112 b2 k2 (.object zs0) (14 : Int32) [(.ref a4), (.ref a16), (.ref a27), (.ref a38), (.ref a49), (.ref a60), (.ref a71), (.ref a82), (.ref a93), (.ref a104)] .null := Arv.set Ar111 q111 S111 N111 H111 G111 (by rfl) W112 9 rfl (Nat.le_of_ble_eq_true rfl)
  have f117 : Sta Z h112 zs0 "INVALID_TEXT" zs1 (.ref a115) := (Sta.wr W112 (Sta.wr W101 (Sta.wr W90 (Sta.wr W79 (Sta.wr W68 (Sta.wr W57 (Sta.wr W46 (Sta.wr W35 (Sta.wr W24 (Sta.wr W12 (Sta.ext E2 F116)))))))))))
  obtain ⟨T118, X118, e118, st118⟩ := getS2 X112 hx hZ hown (host := "") (Or.inl (ww hw 24 rfl)) Via.refl e112 f117 (g := (mkF m 72 (lc0 p1) [(.int 10), (.ref b2), (.ref b2)])) rfl (hb hby at_72)
  have f120 : Exa Z h112 a115 zs0 := (Exa.wr W112 (Exa.wr W101 (Exa.wr W90 (Exa.wr W79 (Exa.wr W68 (Exa.wr W57 (Exa.wr W46 (Exa.wr W35 (Exa.wr W24 (Exa.wr W12 (Exa.ext E2 F119)))))))))))
  have f121 : Arv Z h112 b2 k2 (.object zs0) (14 : Int32) [(.ref a4), (.ref a16), (.ref a27), (.ref a38), (.ref a49), (.ref a60), (.ref a71), (.ref a82), (.ref a93), (.ref a104), .null] .null := f114.pad (pad_rep [(.ref a4), (.ref a16), (.ref a27), (.ref a38), (.ref a49), (.ref a60), (.ref a71), (.ref a82), (.ref a93), (.ref a104)] .null 1)
  obtain ⟨cl122, Ar122, q122, S122, N122, H122, G122⟩ := id f121
  have hin123 : ¬ ((10 : Int32) < 0 ∨ cl122.slots.size ≤ ((10 : Int32)).toNatClampNeg) := inb_of S122 ⟨by decide, by decide⟩
  obtain ⟨T123, h123, X123, e123, W123, st123⟩ := stR X118 hx hZ e118 Ar122 (j := (10 : Int32)) hin123 rfl (Sto.ofV Ar122 q122 O2 (Ins.self f120)) (g := (mkF m 75 (lc0 p1) [(.ref a115), (.int 10), (.ref b2), (.ref b2)])) rfl rfl (hb hby at_75)
  have N124 := Fr.snoc X123 N113 g13
  have f125 : Arv Z h123 b2 k2 (.object zs0) (14 : Int32) [(.ref a4), (.ref a16), (.ref a27), (.ref a38), (.ref a49), (.ref a60), (.ref a71), (.ref a82), (.ref a93), (.ref a104), (.ref a115)] .null := Arv.set Ar122 q122 S122 N122 H122 G122 (by rfl) W123 10 rfl (Nat.le_of_ble_eq_true rfl)
  have f128 : Sta Z h123 zs0 zs11 zs1 (.ref a126) := (Sta.wr W123 (Sta.wr W112 (Sta.wr W101 (Sta.wr W90 (Sta.wr W79 (Sta.wr W68 (Sta.wr W57 (Sta.wr W46 (Sta.wr W35 (Sta.wr W24 (Sta.wr W12 (Sta.ext E2 F127))))))))))))
  obtain ⟨T129, X129, e129, st129⟩ := getS2 X123 hx hZ hown (host := "") (Or.inl (ww hw 26 rfl)) Via.refl e123 f128 (g := (mkF m 79 (lc0 p1) [(.int 11), (.ref b2), (.ref b2)])) rfl (hb hby at_79)
  have f131 : Exa Z h123 a126 zs0 := (Exa.wr W123 (Exa.wr W112 (Exa.wr W101 (Exa.wr W90 (Exa.wr W79 (Exa.wr W68 (Exa.wr W57 (Exa.wr W46 (Exa.wr W35 (Exa.wr W24 (Exa.wr W12 (Exa.ext E2 F130))))))))))))
  have f132 : Arv Z h123 b2 k2 (.object zs0) (14 : Int32) [(.ref a4), (.ref a16), (.ref a27), (.ref a38), (.ref a49), (.ref a60), (.ref a71), (.ref a82), (.ref a93), (.ref a104), (.ref a115), .null] .null := f125.pad (pad_rep [(.ref a4), (.ref a16), (.ref a27), (.ref a38), (.ref a49), (.ref a60), (.ref a71), (.ref a82), (.ref a93), (.ref a104), (.ref a115)] .null 1)
  obtain ⟨cl133, Ar133, q133, S133, N133, H133, G133⟩ := id f132
  have hin134 : ¬ ((11 : Int32) < 0 ∨ cl133.slots.size ≤ ((11 : Int32)).toNatClampNeg) := inb_of S133 ⟨by decide, by decide⟩
  obtain ⟨T134, h134, X134, e134, W134, st134⟩ := stR X129 hx hZ e129 Ar133 (j := (11 : Int32)) hin134 rfl (Sto.ofV Ar133 q133 O2 (Ins.self f131)) (g := (mkF m 82 (lc0 p1) [(.ref a126), (.int 11), (.ref b2), (.ref b2)])) rfl rfl (hb hby at_82)
  have N135 := Fr.snoc X134 N124 g13
  have f136 : Arv Z h134 b2 k2 (.object zs0) (14 : Int32) [(.ref a4), (.ref a16), (.ref a27), (.ref a38), (.ref a49), (.ref a60), (.ref a71), (.ref a82), (.ref a93), (.ref a104), (.ref a115), (.ref a126)] .null := Arv.set Ar133 q133 S133 N133 H133 G133 (by rfl) W134 11 rfl (Nat.le_of_ble_eq_true rfl)
  have f139 : Sta Z h134 zs0 zs12 zs1 (.ref a137) := (Sta.wr W134 (Sta.wr W123 (Sta.wr W112 (Sta.wr W101 (Sta.wr W90 (Sta.wr W79 (Sta.wr W68 (Sta.wr W57 (Sta.wr W46 (Sta.wr W35 (Sta.wr W24 (Sta.wr W12 (Sta.ext E2 F138)))))))))))))
  obtain ⟨T140, X140, e140, st140⟩ := getS2 X134 hx hZ hown (host := "") (Or.inl (ww hw 28 rfl)) Via.refl e134 f139 (g := (mkF m 86 (lc0 p1) [(.int 12), (.ref b2), (.ref b2)])) rfl (hb hby at_86)
  have f142 : Exa Z h134 a137 zs0 := (Exa.wr W134 (Exa.wr W123 (Exa.wr W112 (Exa.wr W101 (Exa.wr W90 (Exa.wr W79 (Exa.wr W68 (Exa.wr W57 (Exa.wr W46 (Exa.wr W35 (Exa.wr W24 (Exa.wr W12 (Exa.ext E2 F141)))))))))))))
  have f143 : Arv Z h134 b2 k2 (.object zs0) (14 : Int32) [(.ref a4), (.ref a16), (.ref a27), (.ref a38), (.ref a49), (.ref a60), (.ref a71), (.ref a82), (.ref a93), (.ref a104), (.ref a115), (.ref a126), .null] .null := f136.pad (pad_rep [(.ref a4), (.ref a16), (.ref a27), (.ref a38), (.ref a49), (.ref a60), (.ref a71), (.ref a82), (.ref a93), (.ref a104), (.ref a115), (.ref a126)] .null 1)
  obtain ⟨cl144, Ar144, q144, S144, N144, H144, G144⟩ := id f143
  have hin145 : ¬ ((12 : Int32) < 0 ∨ cl144.slots.size ≤ ((12 : Int32)).toNatClampNeg) := inb_of S144 ⟨by decide, by decide⟩
  obtain ⟨T145, h145, X145, e145, W145, st145⟩ := stR X140 hx hZ e140 Ar144 (j := (12 : Int32)) hin145 rfl (Sto.ofV Ar144 q144 O2 (Ins.self f142)) (g := (mkF m 89 (lc0 p1) [(.ref a137), (.int 12), (.ref b2), (.ref b2)])) rfl rfl (hb hby at_89)
  have N146 := Fr.snoc X145 N135 g13
  have f147 : Arv Z h145 b2 k2 (.object zs0) (14 : Int32) [(.ref a4), (.ref a16), (.ref a27), (.ref a38), (.ref a49), (.ref a60), (.ref a71), (.ref a82), (.ref a93), (.ref a104), (.ref a115), (.ref a126), (.ref a137)] .null := Arv.set Ar144 q144 S144 N144 H144 G144 (by rfl) W145 12 rfl (Nat.le_of_ble_eq_true rfl)
  have f150 : Sta Z h145 zs0 "UNKNOWN_ITEM" zs1 (.ref a148) := (Sta.wr W145 (Sta.wr W134 (Sta.wr W123 (Sta.wr W112 (Sta.wr W101 (Sta.wr W90 (Sta.wr W79 (Sta.wr W68 (Sta.wr W57 (Sta.wr W46 (Sta.wr W35 (Sta.wr W24 (Sta.wr W12 (Sta.ext E2 F149))))))))))))))
  obtain ⟨T151, X151, e151, st151⟩ := getS2 X145 hx hZ hown (host := "") (Or.inl (ww hw 30 rfl)) Via.refl e145 f150 (g := (mkF m 93 (lc0 p1) [(.int 13), (.ref b2), (.ref b2)])) rfl (hb hby at_93)
  have f153 : Exa Z h145 a148 zs0 := (Exa.wr W145 (Exa.wr W134 (Exa.wr W123 (Exa.wr W112 (Exa.wr W101 (Exa.wr W90 (Exa.wr W79 (Exa.wr W68 (Exa.wr W57 (Exa.wr W46 (Exa.wr W35 (Exa.wr W24 (Exa.wr W12 (Exa.ext E2 F152))))))))))))))
  have f154 : Arv Z h145 b2 k2 (.object zs0) (14 : Int32) [(.ref a4), (.ref a16), (.ref a27), (.ref a38), (.ref a49), (.ref a60), (.ref a71), (.ref a82), (.ref a93), (.ref a104), (.ref a115), (.ref a126), (.ref a137), .null] .null := f147.pad (pad_rep [(.ref a4), (.ref a16), (.ref a27), (.ref a38), (.ref a49), (.ref a60), (.ref a71), (.ref a82), (.ref a93), (.ref a104), (.ref a115), (.ref a126), (.ref a137)] .null 1)
  obtain ⟨cl155, Ar155, q155, S155, N155, H155, G155⟩ := id f154
  have hin156 : ¬ ((13 : Int32) < 0 ∨ cl155.slots.size ≤ ((13 : Int32)).toNatClampNeg) := inb_of S155 ⟨by decide, by decide⟩
  obtain ⟨T156, h156, X156, e156, W156, st156⟩ := stR X151 hx hZ e151 Ar155 (j := (13 : Int32)) hin156 rfl (Sto.ofV Ar155 q155 O2 (Ins.self f153)) (g := (mkF m 96 (lc0 p1) [(.ref a148), (.int 13), (.ref b2), (.ref b2)])) rfl rfl (hb hby at_96)
  have N157 := Fr.snoc X156 N146 g13
  have f158 : Arv Z h156 b2 k2 (.object zs0) (14 : Int32) [(.ref a4), (.ref a16), (.ref a27), (.ref a38), (.ref a49), (.ref a60), (.ref a71), (.ref a82), (.ref a93), (.ref a104), (.ref a115), (.ref a126), (.ref a137), (.ref a148)] .null := Arv.set Ar155 q155 S155 N155 H155 G155 (by rfl) W156 13 rfl (Nat.le_of_ble_eq_true rfl)
  refine own_go (U' := T156.setTop (mkF m 105 (lc1 p1 b2) [(.int ((p1 &&& (2147483647 : Int32)) % (14 : Int32)))])) (fun t k => obipush X0 hx hby at_0 (st2 _ (odup X2 hx hby at_5 rfl (oiconst X2 hx hby at_6 (st7 _ (st12 _ (odup X12 hx hby at_11 rfl (oiconst X12 hx hby at_12 (st19 _ (st24 _ (odup X24 hx hby at_17 rfl (oiconst X24 hx hby at_18 (st30 _ (st35 _ (odup X35 hx hby at_23 rfl (oiconst X35 hx hby at_24 (st41 _ (st46 _ (odup X46 hx hby at_29 rfl (oiconst X46 hx hby at_30 (st52 _ (st57 _ (odup X57 hx hby at_35 rfl (oiconst X57 hx hby at_36 (st63 _ (st68 _ (odup X68 hx hby at_41 rfl (obipush X68 hx hby at_42 (st74 _ (st79 _ (odup X79 hx hby at_48 rfl (obipush X79 hx hby at_49 (st85 _ (st90 _ (odup X90 hx hby at_55 rfl (obipush X90 hx hby at_56 (st96 _ (st101 _ (odup X101 hx hby at_62 rfl (obipush X101 hx hby at_63 (st107 _ (st112 _ (odup X112 hx hby at_69 rfl (obipush X112 hx hby at_70 (st118 _ (st123 _ (odup X123 hx hby at_76 rfl (obipush X123 hx hby at_77 (st129 _ (st134 _ (odup X134 hx hby at_83 rfl (obipush X134 hx hby at_84 (st140 _ (st145 _ (odup X145 hx hby at_90 rfl (obipush X145 hx hby at_91 (st151 _ (st156 _ (oastoreN X156 hx hby at_97 (lc1 p1 b2) rfl rfl (oiloadN X156 hx hby at_98 rfl (X156.ldcInt hx hown (mvT hZ (ww hw 32 rfl)) (g := (mkF m 99 (lc1 p1 b2) [(.int p1)])) rfl (hb hby at_99) _ (oiand X156 hx hby at_101 (obipush X156 hx hby at_102 (oirem X156 hx hby at_104 (by decide) k)))))))))))))))))))))))))))))))))))))))))))))))))))))))))))))))) ?_
  rw [hv159]
  obtain ⟨cl160, Ar160, q160, S160, N160, H160, G160⟩ := id f158
  have hin161 : ¬ ((1 : Int32) < 0 ∨ cl160.slots.size ≤ ((1 : Int32)).toNatClampNeg) := inb_of S160 ⟨by decide, by decide⟩
  have hat161 : cl160.slots[((1 : Int32)).toNatClampNeg]? = some (.ref a16) := Has.at H160 hin161 rfl
  refine own_go (U' := T156.setTop (mkF m 113 (lc3 p1 b2 1 a16) [(.int 9), (.int 1)])) (fun t k => oistoreN X156 hx hby at_105 (lc2 p1 b2 1) rfl (oaloadN X156 hx hby at_106 rfl rfl (oiloadN X156 hx hby at_107 rfl (X156.aaload hx (j := (1 : Int32)) (v := (.ref a16)) (by rw [e156]; exact Ar160.1) (State.isArrayOf_alike hZ.alike Ar160.2.1) rfl Ar160.2.2 hin161 hat161 (g := (mkF m 108 (lc2 p1 b2 1) [(.int 1), (.ref b2)])) rfl rfl (hb hby at_108) _ (oastoreN X156 hx hby at_109 (lc3 p1 b2 1 a16) rfl rfl (oiloadN X156 hx hby at_110 rfl (obipush X156 hx hby at_111 k))))))) ?_
  refine own_go (U' := T156.setTop (mkF m 119 (lc3 p1 b2 1 a16) [(.int 10), (.int 1)])) (fun t k => oicN X156 hx hby at_113 (by decide) (oiloadN X156 hx hby at_116 rfl (obipush X156 hx hby at_117 k))) ?_
  have f163 : Exa Z h156 a16 zs0 := (Exa.wr W156 (Exa.wr W145 (Exa.wr W134 (Exa.wr W123 (Exa.wr W112 (Exa.wr W101 (Exa.wr W90 (Exa.wr W79 (Exa.wr W68 (Exa.wr W57 (Exa.wr W46 (Exa.wr W35 (Exa.wr W24 f21)))))))))))))
  have f164 : Sta Z h156 zs0 "INVALID_JSON" zs1 (.ref a104) := (Sta.wr W156 (Sta.wr W145 (Sta.wr W134 (Sta.wr W123 (Sta.wr W112 f106)))))
  have f166 : Sta Z h156 zs0 "INVALID_TEXT" zs1 (.ref a115) := (Sta.wr W156 (Sta.wr W145 (Sta.wr W134 (Sta.wr W123 f117))))
  have Z_1 : n0 ≤ h2.size := Nat.le_trans Z0 E2.1
  have Z_2 : n0 ≤ h12.size := Nat.le_trans Z_1 (Keep.of_wr W12).1
  have Z_3 : n0 ≤ h24.size := Nat.le_trans Z_2 (Keep.of_wr W24).1
  have Z_4 : n0 ≤ h35.size := Nat.le_trans Z_3 (Keep.of_wr W35).1
  have Z_5 : n0 ≤ h46.size := Nat.le_trans Z_4 (Keep.of_wr W46).1
  have Z_6 : n0 ≤ h57.size := Nat.le_trans Z_5 (Keep.of_wr W57).1
  have Z_7 : n0 ≤ h68.size := Nat.le_trans Z_6 (Keep.of_wr W68).1
  have Z_8 : n0 ≤ h79.size := Nat.le_trans Z_7 (Keep.of_wr W79).1
  have Z_9 : n0 ≤ h90.size := Nat.le_trans Z_8 (Keep.of_wr W90).1
  have Z_10 : n0 ≤ h101.size := Nat.le_trans Z_9 (Keep.of_wr W101).1
  have Z_11 : n0 ≤ h112.size := Nat.le_trans Z_10 (Keep.of_wr W112).1
  have Z_12 : n0 ≤ h123.size := Nat.le_trans Z_11 (Keep.of_wr W123).1
  have Z_13 : n0 ≤ h134.size := Nat.le_trans Z_12 (Keep.of_wr W134).1
  have Z_14 : n0 ≤ h145.size := Nat.le_trans Z_13 (Keep.of_wr W145).1
  have Z_15 : n0 ≤ h156.size := Nat.le_trans Z_14 (Keep.of_wr W156).1
  obtain ⟨_, T162, L162, X162, hQ162, st162⟩ := ocallV X156 hx hZ zm0 zm0 hown (ww hw 33 rfl) (ww hw 34 rfl) (notFace_of_selects (args := #[]) (mvT hZ (ww hw 36 rfl))) (ww hw 36 rfl) (ww hw 35 rfl) (by decide) (ww hw 37 rfl) (ww hw 3 rfl) e156 f163 (rm1_0 l Z a0 hw [] a16 a104 a115 h156 n0 Z_15 f164 ha165 f166 ha167) (st := [(.ref a16)]) rfl 0 rfl (by decide) (pc := 130) (Ls := (lc4 p1 b2 1 a16 0)) hml rfl (lenOf pd_0 rfl) at_130 hby
  obtain ⟨rfl, N162q, e162⟩ := hQ162
  have N168 := Fr.app N157 N162q
  refine own_go (U' := T162.setTop (mkF m 135 (lc4 p1 b2 1 a16 0) [(.int 0), (.int 0)])) (fun t k => oicY (pc := 119) X156 hx hby at_119 126 (by decide) (by decide) (oiconst X156 hx hby at_126 (oistore X156 hx hby at_127 (lc4 p1 b2 1 a16 0) rfl (oaloadN X156 hx hby at_129 rfl rfl (st162 _ (oiload X162 hx hby at_133 rfl k)))))) ?_
  refine own_go (U' := T162.setTop (mkF m 143 (lc4 p1 b2 1 a16 0) [(.int 1)])) (fun t k => oicN X162 hx hby at_135 (by decide) (oiconst X162 hx hby at_138 (ogoto (pc := 139) X162 hx hby at_139 143 (by decide) k))) ?_
  obtain ⟨fs, hr, hrun, hended, hW, hsame⟩ := X162.leave (v := some (.int 1)) (fun h => by rw [Bd.returns] at h; cases h)
  refine own_out ⟨_, _, ?_, hrun, hended, _, _, rfl, ?_, ⟨_, rfl⟩, hW, hsame.mono (by decide) (by decide)⟩
  · exact retN X162 hx (t := .boolean) Bd.returns (by simp) (hb hby at_143) hr
  · exact ⟨rfl, N168⟩
set_option maxRecDepth 65536 in
set_option maxHeartbeats 40000000 in
theorem rm0_3 (l : Launch) (Z : State) (a0 : Array Value) (hw : ∀ d ∈ tables_1, d.before a0 Z = true) (ws : List Jvm.Cond) (p1 : Int32) (a4 : Addr) (a16 : Addr) (a27 : Addr) (a38 : Addr) (a49 : Addr) (a60 : Addr) (a71 : Addr) (a82 : Addr) (a93 : Addr) (a104 : Addr) (a115 : Addr) (a126 : Addr) (a137 : Addr) (a148 : Addr) (h0 : Heap) (n0 : Nat) (Z0 : n0 ≤ h0.size) (F5 : Sta Z h0 zs0 zs2 zs1 (.ref a4)) (F8 : Exa Z h0 a4 zs0) (F17 : Sta Z h0 zs0 zs3 zs1 (.ref a16)) (F20 : Exa Z h0 a16 zs0) (F28 : Sta Z h0 zs0 zs4 zs1 (.ref a27)) (F31 : Exa Z h0 a27 zs0) (F39 : Sta Z h0 zs0 zs5 zs1 (.ref a38)) (F42 : Exa Z h0 a38 zs0) (F50 : Sta Z h0 zs0 zs6 zs1 (.ref a49)) (F53 : Exa Z h0 a49 zs0) (F61 : Sta Z h0 zs0 zs7 zs1 (.ref a60)) (F64 : Exa Z h0 a60 zs0) (F72 : Sta Z h0 zs0 zs8 zs1 (.ref a71)) (F75 : Exa Z h0 a71 zs0) (F83 : Sta Z h0 zs0 zs9 zs1 (.ref a82)) (F86 : Exa Z h0 a82 zs0) (F94 : Sta Z h0 zs0 zs10 zs1 (.ref a93)) (F97 : Exa Z h0 a93 zs0) (F105 : Sta Z h0 zs0 "INVALID_JSON" zs1 (.ref a104)) (F108 : Exa Z h0 a104 zs0) (F116 : Sta Z h0 zs0 "INVALID_TEXT" zs1 (.ref a115)) (F119 : Exa Z h0 a115 zs0) (F127 : Sta Z h0 zs0 zs11 zs1 (.ref a126)) (F130 : Exa Z h0 a126 zs0) (F138 : Sta Z h0 zs0 zs12 zs1 (.ref a137)) (F141 : Exa Z h0 a137 zs0) (F149 : Sta Z h0 zs0 "UNKNOWN_ITEM" zs1 (.ref a148)) (F152 : Exa Z h0 a148 zs0) (hv159 : ((p1 &&& (2147483647 : Int32)) % (14 : Int32)) = (2 : Int32)) (ha165 : a27 ≠ a104) (ha167 : a27 ≠ a115) :
    MetFree l x (head1 (Jvm.Cond.code x code maxLocals ret :: ws) room_1) (fun a U => a = #[(.int p1)] ∧ Z.Warmed39 U.vm ∧ U.heap = h0) (fun _ _ _ _ _ => True) (fun _ U o U' => ∃ v L, o = .returned v ∧ QLaw n0 v U'.heap L ∧ FrameEnd U o U' L room_1.cells room_1.slots) := by
  refine MetFree.of_bodySF (plainFor_of_name pn_com_example_strict_ledger_strictledger_RefusalCodeIsAboutTextPinLaw) hisR ?_
  intro p e s m args below meth c s₁ Bd hml0 hP hK
  obtain ⟨rfl, hZ, hh⟩ := hP
  have hx := Bd.exec
  have hby := Bd.bytes
  have hml : c.maxLocals = 5 := hml0
  have hown : s.vm.findClass zs13 = some m.cls := findClass_of_methodNamed Bd.named
  have hnm := (name_of_methodNamed Bd.named Bd.method).1
  have X0 : Stand p l e room_1 s m #[(.int p1)] below meth c s₁ [] 0 0 := Stand.of_body Bd
  have e0 : s₁.heap = h0 := by rw [← hh, Bd.state]; rfl
  have N0 := Fr.nil n0
  refine own_pre (g' := mkF m 0 (lc0 p1) []) (ef_1 m p1) ?_
  obtain ⟨T2, h2, k2, X2, e2, E2, A2, B2, O2, st2⟩ := newRE X0 hx hZ hown (ww hw 0 rfl) (ww hw 1 rfl) e0 (g := (mkF m 2 (lc0 p1) [(.int 14)])) rfl (hb hby at_2) rfl (by decide) (cap := 14) (by decide) (by decide) (by decide) (by decide) (ad := zs14) (by decide)
  obtain ⟨b2, g2⟩ : ∃ z, z = h0.size := ⟨_, rfl⟩
  rw [← g2] at A2 B2 st2
  have f3 : Arv Z h2 b2 k2 (.object zs0) (14 : Int32) [] .null := Arv.new A2 (by decide)
  have f6 : Sta Z h2 zs0 zs2 zs1 (.ref a4) := (Sta.ext E2 F5)
  obtain ⟨T7, X7, e7, st7⟩ := getS2 X2 hx hZ hown (host := "") (Or.inl (ww hw 2 rfl)) Via.refl e2 f6 (g := (mkF m 7 (lc0 p1) [(.int 0), (.ref b2), (.ref b2)])) rfl (hb hby at_7)
  have f9 : Exa Z h2 a4 zs0 := (Exa.ext E2 F8)
  have f10 : Arv Z h2 b2 k2 (.object zs0) (14 : Int32) [.null] .null := f3.pad (pad_rep [] .null 1)
  obtain ⟨cl11, Ar11, q11, S11, N11, H11, G11⟩ := id f10
  have g13 : n0 ≤ b2 := Nat.le_trans Z0 (Nat.le_of_eq g2.symm)
  have hin12 : ¬ ((0 : Int32) < 0 ∨ cl11.slots.size ≤ ((0 : Int32)).toNatClampNeg) := inb_of S11 ⟨by decide, by decide⟩
  obtain ⟨T12, h12, X12, e12, W12, st12⟩ := stR X7 hx hZ e7 Ar11 (j := (0 : Int32)) hin12 rfl (Sto.ofV Ar11 q11 O2 (Ins.self f9)) (g := (mkF m 10 (lc0 p1) [(.ref a4), (.int 0), (.ref b2), (.ref b2)])) rfl rfl (hb hby at_10)
  have N14 := Fr.snoc X12 N0 g13
  have f15 : Arv Z h12 b2 k2 (.object zs0) (14 : Int32) [(.ref a4)] .null := Arv.set Ar11 q11 S11 N11 H11 G11 (by rfl) W12 0 rfl (Nat.le_of_ble_eq_true rfl)
  have f18 : Sta Z h12 zs0 zs3 zs1 (.ref a16) := (Sta.wr W12 (Sta.ext E2 F17))
  obtain ⟨T19, X19, e19, st19⟩ := getS2 X12 hx hZ hown (host := "") (Or.inl (ww hw 6 rfl)) Via.refl e12 f18 (g := (mkF m 13 (lc0 p1) [(.int 1), (.ref b2), (.ref b2)])) rfl (hb hby at_13)
  have f21 : Exa Z h12 a16 zs0 := (Exa.wr W12 (Exa.ext E2 F20))
  have f22 : Arv Z h12 b2 k2 (.object zs0) (14 : Int32) [(.ref a4), .null] .null := f15.pad (pad_rep [(.ref a4)] .null 1)
  obtain ⟨cl23, Ar23, q23, S23, N23, H23, G23⟩ := id f22
  have hin24 : ¬ ((1 : Int32) < 0 ∨ cl23.slots.size ≤ ((1 : Int32)).toNatClampNeg) := inb_of S23 ⟨by decide, by decide⟩
  obtain ⟨T24, h24, X24, e24, W24, st24⟩ := stR X19 hx hZ e19 Ar23 (j := (1 : Int32)) hin24 rfl (Sto.ofV Ar23 q23 O2 (Ins.self f21)) (g := (mkF m 16 (lc0 p1) [(.ref a16), (.int 1), (.ref b2), (.ref b2)])) rfl rfl (hb hby at_16)
  have N25 := Fr.snoc X24 N14 g13
  have f26 : Arv Z h24 b2 k2 (.object zs0) (14 : Int32) [(.ref a4), (.ref a16)] .null := Arv.set Ar23 q23 S23 N23 H23 G23 (by rfl) W24 1 rfl (Nat.le_of_ble_eq_true rfl)
  have f29 : Sta Z h24 zs0 zs4 zs1 (.ref a27) := (Sta.wr W24 (Sta.wr W12 (Sta.ext E2 F28)))
  obtain ⟨T30, X30, e30, st30⟩ := getS2 X24 hx hZ hown (host := "") (Or.inl (ww hw 8 rfl)) Via.refl e24 f29 (g := (mkF m 19 (lc0 p1) [(.int 2), (.ref b2), (.ref b2)])) rfl (hb hby at_19)
  have f32 : Exa Z h24 a27 zs0 := (Exa.wr W24 (Exa.wr W12 (Exa.ext E2 F31)))
  have f33 : Arv Z h24 b2 k2 (.object zs0) (14 : Int32) [(.ref a4), (.ref a16), .null] .null := f26.pad (pad_rep [(.ref a4), (.ref a16)] .null 1)
  obtain ⟨cl34, Ar34, q34, S34, N34, H34, G34⟩ := id f33
  have hin35 : ¬ ((2 : Int32) < 0 ∨ cl34.slots.size ≤ ((2 : Int32)).toNatClampNeg) := inb_of S34 ⟨by decide, by decide⟩
  obtain ⟨T35, h35, X35, e35, W35, st35⟩ := stR X30 hx hZ e30 Ar34 (j := (2 : Int32)) hin35 rfl (Sto.ofV Ar34 q34 O2 (Ins.self f32)) (g := (mkF m 22 (lc0 p1) [(.ref a27), (.int 2), (.ref b2), (.ref b2)])) rfl rfl (hb hby at_22)
  have N36 := Fr.snoc X35 N25 g13
  have f37 : Arv Z h35 b2 k2 (.object zs0) (14 : Int32) [(.ref a4), (.ref a16), (.ref a27)] .null := Arv.set Ar34 q34 S34 N34 H34 G34 (by rfl) W35 2 rfl (Nat.le_of_ble_eq_true rfl)
  have f40 : Sta Z h35 zs0 zs5 zs1 (.ref a38) := (Sta.wr W35 (Sta.wr W24 (Sta.wr W12 (Sta.ext E2 F39))))
  obtain ⟨T41, X41, e41, st41⟩ := getS2 X35 hx hZ hown (host := "") (Or.inl (ww hw 10 rfl)) Via.refl e35 f40 (g := (mkF m 25 (lc0 p1) [(.int 3), (.ref b2), (.ref b2)])) rfl (hb hby at_25)
  have f43 : Exa Z h35 a38 zs0 := (Exa.wr W35 (Exa.wr W24 (Exa.wr W12 (Exa.ext E2 F42))))
  have f44 : Arv Z h35 b2 k2 (.object zs0) (14 : Int32) [(.ref a4), (.ref a16), (.ref a27), .null] .null := f37.pad (pad_rep [(.ref a4), (.ref a16), (.ref a27)] .null 1)
  obtain ⟨cl45, Ar45, q45, S45, N45, H45, G45⟩ := id f44
  have hin46 : ¬ ((3 : Int32) < 0 ∨ cl45.slots.size ≤ ((3 : Int32)).toNatClampNeg) := inb_of S45 ⟨by decide, by decide⟩
  obtain ⟨T46, h46, X46, e46, W46, st46⟩ := stR X41 hx hZ e41 Ar45 (j := (3 : Int32)) hin46 rfl (Sto.ofV Ar45 q45 O2 (Ins.self f43)) (g := (mkF m 28 (lc0 p1) [(.ref a38), (.int 3), (.ref b2), (.ref b2)])) rfl rfl (hb hby at_28)
  have N47 := Fr.snoc X46 N36 g13
  have f48 : Arv Z h46 b2 k2 (.object zs0) (14 : Int32) [(.ref a4), (.ref a16), (.ref a27), (.ref a38)] .null := Arv.set Ar45 q45 S45 N45 H45 G45 (by rfl) W46 3 rfl (Nat.le_of_ble_eq_true rfl)
  have f51 : Sta Z h46 zs0 zs6 zs1 (.ref a49) := (Sta.wr W46 (Sta.wr W35 (Sta.wr W24 (Sta.wr W12 (Sta.ext E2 F50)))))
  obtain ⟨T52, X52, e52, st52⟩ := getS2 X46 hx hZ hown (host := "") (Or.inl (ww hw 12 rfl)) Via.refl e46 f51 (g := (mkF m 31 (lc0 p1) [(.int 4), (.ref b2), (.ref b2)])) rfl (hb hby at_31)
  have f54 : Exa Z h46 a49 zs0 := (Exa.wr W46 (Exa.wr W35 (Exa.wr W24 (Exa.wr W12 (Exa.ext E2 F53)))))
  have f55 : Arv Z h46 b2 k2 (.object zs0) (14 : Int32) [(.ref a4), (.ref a16), (.ref a27), (.ref a38), .null] .null := f48.pad (pad_rep [(.ref a4), (.ref a16), (.ref a27), (.ref a38)] .null 1)
  obtain ⟨cl56, Ar56, q56, S56, N56, H56, G56⟩ := id f55
  have hin57 : ¬ ((4 : Int32) < 0 ∨ cl56.slots.size ≤ ((4 : Int32)).toNatClampNeg) := inb_of S56 ⟨by decide, by decide⟩
  obtain ⟨T57, h57, X57, e57, W57, st57⟩ := stR X52 hx hZ e52 Ar56 (j := (4 : Int32)) hin57 rfl (Sto.ofV Ar56 q56 O2 (Ins.self f54)) (g := (mkF m 34 (lc0 p1) [(.ref a49), (.int 4), (.ref b2), (.ref b2)])) rfl rfl (hb hby at_34)
  have N58 := Fr.snoc X57 N47 g13
  have f59 : Arv Z h57 b2 k2 (.object zs0) (14 : Int32) [(.ref a4), (.ref a16), (.ref a27), (.ref a38), (.ref a49)] .null := Arv.set Ar56 q56 S56 N56 H56 G56 (by rfl) W57 4 rfl (Nat.le_of_ble_eq_true rfl)
  have f62 : Sta Z h57 zs0 zs7 zs1 (.ref a60) := (Sta.wr W57 (Sta.wr W46 (Sta.wr W35 (Sta.wr W24 (Sta.wr W12 (Sta.ext E2 F61))))))
  obtain ⟨T63, X63, e63, st63⟩ := getS2 X57 hx hZ hown (host := "") (Or.inl (ww hw 14 rfl)) Via.refl e57 f62 (g := (mkF m 37 (lc0 p1) [(.int 5), (.ref b2), (.ref b2)])) rfl (hb hby at_37)
  have f65 : Exa Z h57 a60 zs0 := (Exa.wr W57 (Exa.wr W46 (Exa.wr W35 (Exa.wr W24 (Exa.wr W12 (Exa.ext E2 F64))))))
  have f66 : Arv Z h57 b2 k2 (.object zs0) (14 : Int32) [(.ref a4), (.ref a16), (.ref a27), (.ref a38), (.ref a49), .null] .null := f59.pad (pad_rep [(.ref a4), (.ref a16), (.ref a27), (.ref a38), (.ref a49)] .null 1)
  obtain ⟨cl67, Ar67, q67, S67, N67, H67, G67⟩ := id f66
  have hin68 : ¬ ((5 : Int32) < 0 ∨ cl67.slots.size ≤ ((5 : Int32)).toNatClampNeg) := inb_of S67 ⟨by decide, by decide⟩
  obtain ⟨T68, h68, X68, e68, W68, st68⟩ := stR X63 hx hZ e63 Ar67 (j := (5 : Int32)) hin68 rfl (Sto.ofV Ar67 q67 O2 (Ins.self f65)) (g := (mkF m 40 (lc0 p1) [(.ref a60), (.int 5), (.ref b2), (.ref b2)])) rfl rfl (hb hby at_40)
  have N69 := Fr.snoc X68 N58 g13
  have f70 : Arv Z h68 b2 k2 (.object zs0) (14 : Int32) [(.ref a4), (.ref a16), (.ref a27), (.ref a38), (.ref a49), (.ref a60)] .null := Arv.set Ar67 q67 S67 N67 H67 G67 (by rfl) W68 5 rfl (Nat.le_of_ble_eq_true rfl)
  have f73 : Sta Z h68 zs0 zs8 zs1 (.ref a71) := (Sta.wr W68 (Sta.wr W57 (Sta.wr W46 (Sta.wr W35 (Sta.wr W24 (Sta.wr W12 (Sta.ext E2 F72)))))))
  obtain ⟨T74, X74, e74, st74⟩ := getS2 X68 hx hZ hown (host := "") (Or.inl (ww hw 16 rfl)) Via.refl e68 f73 (g := (mkF m 44 (lc0 p1) [(.int 6), (.ref b2), (.ref b2)])) rfl (hb hby at_44)
  have f76 : Exa Z h68 a71 zs0 := (Exa.wr W68 (Exa.wr W57 (Exa.wr W46 (Exa.wr W35 (Exa.wr W24 (Exa.wr W12 (Exa.ext E2 F75)))))))
  have f77 : Arv Z h68 b2 k2 (.object zs0) (14 : Int32) [(.ref a4), (.ref a16), (.ref a27), (.ref a38), (.ref a49), (.ref a60), .null] .null := f70.pad (pad_rep [(.ref a4), (.ref a16), (.ref a27), (.ref a38), (.ref a49), (.ref a60)] .null 1)
  obtain ⟨cl78, Ar78, q78, S78, N78, H78, G78⟩ := id f77
  have hin79 : ¬ ((6 : Int32) < 0 ∨ cl78.slots.size ≤ ((6 : Int32)).toNatClampNeg) := inb_of S78 ⟨by decide, by decide⟩
  obtain ⟨T79, h79, X79, e79, W79, st79⟩ := stR X74 hx hZ e74 Ar78 (j := (6 : Int32)) hin79 rfl (Sto.ofV Ar78 q78 O2 (Ins.self f76)) (g := (mkF m 47 (lc0 p1) [(.ref a71), (.int 6), (.ref b2), (.ref b2)])) rfl rfl (hb hby at_47)
  have N80 := Fr.snoc X79 N69 g13
  have f81 : Arv Z h79 b2 k2 (.object zs0) (14 : Int32) [(.ref a4), (.ref a16), (.ref a27), (.ref a38), (.ref a49), (.ref a60), (.ref a71)] .null := Arv.set Ar78 q78 S78 N78 H78 G78 (by rfl) W79 6 rfl (Nat.le_of_ble_eq_true rfl)
  have f84 : Sta Z h79 zs0 zs9 zs1 (.ref a82) := (Sta.wr W79 (Sta.wr W68 (Sta.wr W57 (Sta.wr W46 (Sta.wr W35 (Sta.wr W24 (Sta.wr W12 (Sta.ext E2 F83))))))))
  obtain ⟨T85, X85, e85, st85⟩ := getS2 X79 hx hZ hown (host := "") (Or.inl (ww hw 18 rfl)) Via.refl e79 f84 (g := (mkF m 51 (lc0 p1) [(.int 7), (.ref b2), (.ref b2)])) rfl (hb hby at_51)
  have f87 : Exa Z h79 a82 zs0 := (Exa.wr W79 (Exa.wr W68 (Exa.wr W57 (Exa.wr W46 (Exa.wr W35 (Exa.wr W24 (Exa.wr W12 (Exa.ext E2 F86))))))))
  have f88 : Arv Z h79 b2 k2 (.object zs0) (14 : Int32) [(.ref a4), (.ref a16), (.ref a27), (.ref a38), (.ref a49), (.ref a60), (.ref a71), .null] .null := f81.pad (pad_rep [(.ref a4), (.ref a16), (.ref a27), (.ref a38), (.ref a49), (.ref a60), (.ref a71)] .null 1)
  obtain ⟨cl89, Ar89, q89, S89, N89, H89, G89⟩ := id f88
  have hin90 : ¬ ((7 : Int32) < 0 ∨ cl89.slots.size ≤ ((7 : Int32)).toNatClampNeg) := inb_of S89 ⟨by decide, by decide⟩
  obtain ⟨T90, h90, X90, e90, W90, st90⟩ := stR X85 hx hZ e85 Ar89 (j := (7 : Int32)) hin90 rfl (Sto.ofV Ar89 q89 O2 (Ins.self f87)) (g := (mkF m 54 (lc0 p1) [(.ref a82), (.int 7), (.ref b2), (.ref b2)])) rfl rfl (hb hby at_54)
  have N91 := Fr.snoc X90 N80 g13
  have f92 : Arv Z h90 b2 k2 (.object zs0) (14 : Int32) [(.ref a4), (.ref a16), (.ref a27), (.ref a38), (.ref a49), (.ref a60), (.ref a71), (.ref a82)] .null := Arv.set Ar89 q89 S89 N89 H89 G89 (by rfl) W90 7 rfl (Nat.le_of_ble_eq_true rfl)
  have f95 : Sta Z h90 zs0 zs10 zs1 (.ref a93) := (Sta.wr W90 (Sta.wr W79 (Sta.wr W68 (Sta.wr W57 (Sta.wr W46 (Sta.wr W35 (Sta.wr W24 (Sta.wr W12 (Sta.ext E2 F94)))))))))
  obtain ⟨T96, X96, e96, st96⟩ := getS2 X90 hx hZ hown (host := "") (Or.inl (ww hw 20 rfl)) Via.refl e90 f95 (g := (mkF m 58 (lc0 p1) [(.int 8), (.ref b2), (.ref b2)])) rfl (hb hby at_58)
  have f98 : Exa Z h90 a93 zs0 := (Exa.wr W90 (Exa.wr W79 (Exa.wr W68 (Exa.wr W57 (Exa.wr W46 (Exa.wr W35 (Exa.wr W24 (Exa.wr W12 (Exa.ext E2 F97)))))))))
  have f99 : Arv Z h90 b2 k2 (.object zs0) (14 : Int32) [(.ref a4), (.ref a16), (.ref a27), (.ref a38), (.ref a49), (.ref a60), (.ref a71), (.ref a82), .null] .null := f92.pad (pad_rep [(.ref a4), (.ref a16), (.ref a27), (.ref a38), (.ref a49), (.ref a60), (.ref a71), (.ref a82)] .null 1)
  obtain ⟨cl100, Ar100, q100, S100, N100, H100, G100⟩ := id f99
  have hin101 : ¬ ((8 : Int32) < 0 ∨ cl100.slots.size ≤ ((8 : Int32)).toNatClampNeg) := inb_of S100 ⟨by decide, by decide⟩
  obtain ⟨T101, h101, X101, e101, W101, st101⟩ := stR X96 hx hZ e96 Ar100 (j := (8 : Int32)) hin101 rfl (Sto.ofV Ar100 q100 O2 (Ins.self f98)) (g := (mkF m 61 (lc0 p1) [(.ref a93), (.int 8), (.ref b2), (.ref b2)])) rfl rfl (hb hby at_61)
  have N102 := Fr.snoc X101 N91 g13
  have f103 : Arv Z h101 b2 k2 (.object zs0) (14 : Int32) [(.ref a4), (.ref a16), (.ref a27), (.ref a38), (.ref a49), (.ref a60), (.ref a71), (.ref a82), (.ref a93)] .null := Arv.set Ar100 q100 S100 N100 H100 G100 (by rfl) W101 8 rfl (Nat.le_of_ble_eq_true rfl)
  have f106 : Sta Z h101 zs0 "INVALID_JSON" zs1 (.ref a104) := (Sta.wr W101 (Sta.wr W90 (Sta.wr W79 (Sta.wr W68 (Sta.wr W57 (Sta.wr W46 (Sta.wr W35 (Sta.wr W24 (Sta.wr W12 (Sta.ext E2 F105))))))))))
  obtain ⟨T107, X107, e107, st107⟩ := getS2 X101 hx hZ hown (host := "") (Or.inl (ww hw 22 rfl)) Via.refl e101 f106 (g := (mkF m 65 (lc0 p1) [(.int 9), (.ref b2), (.ref b2)])) rfl (hb hby at_65)
  have f109 : Exa Z h101 a104 zs0 := (Exa.wr W101 (Exa.wr W90 (Exa.wr W79 (Exa.wr W68 (Exa.wr W57 (Exa.wr W46 (Exa.wr W35 (Exa.wr W24 (Exa.wr W12 (Exa.ext E2 F108))))))))))
  have f110 : Arv Z h101 b2 k2 (.object zs0) (14 : Int32) [(.ref a4), (.ref a16), (.ref a27), (.ref a38), (.ref a49), (.ref a60), (.ref a71), (.ref a82), (.ref a93), .null] .null := f103.pad (pad_rep [(.ref a4), (.ref a16), (.ref a27), (.ref a38), (.ref a49), (.ref a60), (.ref a71), (.ref a82), (.ref a93)] .null 1)
  obtain ⟨cl111, Ar111, q111, S111, N111, H111, G111⟩ := id f110
  have hin112 : ¬ ((9 : Int32) < 0 ∨ cl111.slots.size ≤ ((9 : Int32)).toNatClampNeg) := inb_of S111 ⟨by decide, by decide⟩
  obtain ⟨T112, h112, X112, e112, W112, st112⟩ := stR X107 hx hZ e107 Ar111 (j := (9 : Int32)) hin112 rfl (Sto.ofV Ar111 q111 O2 (Ins.self f109)) (g := (mkF m 68 (lc0 p1) [(.ref a104), (.int 9), (.ref b2), (.ref b2)])) rfl rfl (hb hby at_68)
  have N113 := Fr.snoc X112 N102 g13
  have f114 : Arv Z h112 b2 k2 (.object zs0) (14 : Int32) [(.ref a4), (.ref a16), (.ref a27), (.ref a38), (.ref a49), (.ref a60), (.ref a71), (.ref a82), (.ref a93), (.ref a104)] .null := Arv.set Ar111 q111 S111 N111 H111 G111 (by rfl) W112 9 rfl (Nat.le_of_ble_eq_true rfl)
  have f117 : Sta Z h112 zs0 "INVALID_TEXT" zs1 (.ref a115) := (Sta.wr W112 (Sta.wr W101 (Sta.wr W90 (Sta.wr W79 (Sta.wr W68 (Sta.wr W57 (Sta.wr W46 (Sta.wr W35 (Sta.wr W24 (Sta.wr W12 (Sta.ext E2 F116)))))))))))
  obtain ⟨T118, X118, e118, st118⟩ := getS2 X112 hx hZ hown (host := "") (Or.inl (ww hw 24 rfl)) Via.refl e112 f117 (g := (mkF m 72 (lc0 p1) [(.int 10), (.ref b2), (.ref b2)])) rfl (hb hby at_72)
  have f120 : Exa Z h112 a115 zs0 := (Exa.wr W112 (Exa.wr W101 (Exa.wr W90 (Exa.wr W79 (Exa.wr W68 (Exa.wr W57 (Exa.wr W46 (Exa.wr W35 (Exa.wr W24 (Exa.wr W12 (Exa.ext E2 F119)))))))))))
  have f121 : Arv Z h112 b2 k2 (.object zs0) (14 : Int32) [(.ref a4), (.ref a16), (.ref a27), (.ref a38), (.ref a49), (.ref a60), (.ref a71), (.ref a82), (.ref a93), (.ref a104), .null] .null := f114.pad (pad_rep [(.ref a4), (.ref a16), (.ref a27), (.ref a38), (.ref a49), (.ref a60), (.ref a71), (.ref a82), (.ref a93), (.ref a104)] .null 1)
  obtain ⟨cl122, Ar122, q122, S122, N122, H122, G122⟩ := id f121
  have hin123 : ¬ ((10 : Int32) < 0 ∨ cl122.slots.size ≤ ((10 : Int32)).toNatClampNeg) := inb_of S122 ⟨by decide, by decide⟩
  obtain ⟨T123, h123, X123, e123, W123, st123⟩ := stR X118 hx hZ e118 Ar122 (j := (10 : Int32)) hin123 rfl (Sto.ofV Ar122 q122 O2 (Ins.self f120)) (g := (mkF m 75 (lc0 p1) [(.ref a115), (.int 10), (.ref b2), (.ref b2)])) rfl rfl (hb hby at_75)
  have N124 := Fr.snoc X123 N113 g13
  have f125 : Arv Z h123 b2 k2 (.object zs0) (14 : Int32) [(.ref a4), (.ref a16), (.ref a27), (.ref a38), (.ref a49), (.ref a60), (.ref a71), (.ref a82), (.ref a93), (.ref a104), (.ref a115)] .null := Arv.set Ar122 q122 S122 N122 H122 G122 (by rfl) W123 10 rfl (Nat.le_of_ble_eq_true rfl)
  have f128 : Sta Z h123 zs0 zs11 zs1 (.ref a126) := (Sta.wr W123 (Sta.wr W112 (Sta.wr W101 (Sta.wr W90 (Sta.wr W79 (Sta.wr W68 (Sta.wr W57 (Sta.wr W46 (Sta.wr W35 (Sta.wr W24 (Sta.wr W12 (Sta.ext E2 F127))))))))))))
  obtain ⟨T129, X129, e129, st129⟩ := getS2 X123 hx hZ hown (host := "") (Or.inl (ww hw 26 rfl)) Via.refl e123 f128 (g := (mkF m 79 (lc0 p1) [(.int 11), (.ref b2), (.ref b2)])) rfl (hb hby at_79)
  have f131 : Exa Z h123 a126 zs0 := (Exa.wr W123 (Exa.wr W112 (Exa.wr W101 (Exa.wr W90 (Exa.wr W79 (Exa.wr W68 (Exa.wr W57 (Exa.wr W46 (Exa.wr W35 (Exa.wr W24 (Exa.wr W12 (Exa.ext E2 F130))))))))))))
  have f132 : Arv Z h123 b2 k2 (.object zs0) (14 : Int32) [(.ref a4), (.ref a16), (.ref a27), (.ref a38), (.ref a49), (.ref a60), (.ref a71), (.ref a82), (.ref a93), (.ref a104), (.ref a115), .null] .null := f125.pad (pad_rep [(.ref a4), (.ref a16), (.ref a27), (.ref a38), (.ref a49), (.ref a60), (.ref a71), (.ref a82), (.ref a93), (.ref a104), (.ref a115)] .null 1)
  obtain ⟨cl133, Ar133, q133, S133, N133, H133, G133⟩ := id f132
  have hin134 : ¬ ((11 : Int32) < 0 ∨ cl133.slots.size ≤ ((11 : Int32)).toNatClampNeg) := inb_of S133 ⟨by decide, by decide⟩
  obtain ⟨T134, h134, X134, e134, W134, st134⟩ := stR X129 hx hZ e129 Ar133 (j := (11 : Int32)) hin134 rfl (Sto.ofV Ar133 q133 O2 (Ins.self f131)) (g := (mkF m 82 (lc0 p1) [(.ref a126), (.int 11), (.ref b2), (.ref b2)])) rfl rfl (hb hby at_82)
  have N135 := Fr.snoc X134 N124 g13
  have f136 : Arv Z h134 b2 k2 (.object zs0) (14 : Int32) [(.ref a4), (.ref a16), (.ref a27), (.ref a38), (.ref a49), (.ref a60), (.ref a71), (.ref a82), (.ref a93), (.ref a104), (.ref a115), (.ref a126)] .null := Arv.set Ar133 q133 S133 N133 H133 G133 (by rfl) W134 11 rfl (Nat.le_of_ble_eq_true rfl)
  have f139 : Sta Z h134 zs0 zs12 zs1 (.ref a137) := (Sta.wr W134 (Sta.wr W123 (Sta.wr W112 (Sta.wr W101 (Sta.wr W90 (Sta.wr W79 (Sta.wr W68 (Sta.wr W57 (Sta.wr W46 (Sta.wr W35 (Sta.wr W24 (Sta.wr W12 (Sta.ext E2 F138)))))))))))))
  obtain ⟨T140, X140, e140, st140⟩ := getS2 X134 hx hZ hown (host := "") (Or.inl (ww hw 28 rfl)) Via.refl e134 f139 (g := (mkF m 86 (lc0 p1) [(.int 12), (.ref b2), (.ref b2)])) rfl (hb hby at_86)
  have f142 : Exa Z h134 a137 zs0 := (Exa.wr W134 (Exa.wr W123 (Exa.wr W112 (Exa.wr W101 (Exa.wr W90 (Exa.wr W79 (Exa.wr W68 (Exa.wr W57 (Exa.wr W46 (Exa.wr W35 (Exa.wr W24 (Exa.wr W12 (Exa.ext E2 F141)))))))))))))
  have f143 : Arv Z h134 b2 k2 (.object zs0) (14 : Int32) [(.ref a4), (.ref a16), (.ref a27), (.ref a38), (.ref a49), (.ref a60), (.ref a71), (.ref a82), (.ref a93), (.ref a104), (.ref a115), (.ref a126), .null] .null := f136.pad (pad_rep [(.ref a4), (.ref a16), (.ref a27), (.ref a38), (.ref a49), (.ref a60), (.ref a71), (.ref a82), (.ref a93), (.ref a104), (.ref a115), (.ref a126)] .null 1)
  obtain ⟨cl144, Ar144, q144, S144, N144, H144, G144⟩ := id f143
  have hin145 : ¬ ((12 : Int32) < 0 ∨ cl144.slots.size ≤ ((12 : Int32)).toNatClampNeg) := inb_of S144 ⟨by decide, by decide⟩
  obtain ⟨T145, h145, X145, e145, W145, st145⟩ := stR X140 hx hZ e140 Ar144 (j := (12 : Int32)) hin145 rfl (Sto.ofV Ar144 q144 O2 (Ins.self f142)) (g := (mkF m 89 (lc0 p1) [(.ref a137), (.int 12), (.ref b2), (.ref b2)])) rfl rfl (hb hby at_89)
  have N146 := Fr.snoc X145 N135 g13
  have f147 : Arv Z h145 b2 k2 (.object zs0) (14 : Int32) [(.ref a4), (.ref a16), (.ref a27), (.ref a38), (.ref a49), (.ref a60), (.ref a71), (.ref a82), (.ref a93), (.ref a104), (.ref a115), (.ref a126), (.ref a137)] .null := Arv.set Ar144 q144 S144 N144 H144 G144 (by rfl) W145 12 rfl (Nat.le_of_ble_eq_true rfl)
  have f150 : Sta Z h145 zs0 "UNKNOWN_ITEM" zs1 (.ref a148) := (Sta.wr W145 (Sta.wr W134 (Sta.wr W123 (Sta.wr W112 (Sta.wr W101 (Sta.wr W90 (Sta.wr W79 (Sta.wr W68 (Sta.wr W57 (Sta.wr W46 (Sta.wr W35 (Sta.wr W24 (Sta.wr W12 (Sta.ext E2 F149))))))))))))))
  obtain ⟨T151, X151, e151, st151⟩ := getS2 X145 hx hZ hown (host := "") (Or.inl (ww hw 30 rfl)) Via.refl e145 f150 (g := (mkF m 93 (lc0 p1) [(.int 13), (.ref b2), (.ref b2)])) rfl (hb hby at_93)
  have f153 : Exa Z h145 a148 zs0 := (Exa.wr W145 (Exa.wr W134 (Exa.wr W123 (Exa.wr W112 (Exa.wr W101 (Exa.wr W90 (Exa.wr W79 (Exa.wr W68 (Exa.wr W57 (Exa.wr W46 (Exa.wr W35 (Exa.wr W24 (Exa.wr W12 (Exa.ext E2 F152))))))))))))))
  have f154 : Arv Z h145 b2 k2 (.object zs0) (14 : Int32) [(.ref a4), (.ref a16), (.ref a27), (.ref a38), (.ref a49), (.ref a60), (.ref a71), (.ref a82), (.ref a93), (.ref a104), (.ref a115), (.ref a126), (.ref a137), .null] .null := f147.pad (pad_rep [(.ref a4), (.ref a16), (.ref a27), (.ref a38), (.ref a49), (.ref a60), (.ref a71), (.ref a82), (.ref a93), (.ref a104), (.ref a115), (.ref a126), (.ref a137)] .null 1)
  obtain ⟨cl155, Ar155, q155, S155, N155, H155, G155⟩ := id f154
  have hin156 : ¬ ((13 : Int32) < 0 ∨ cl155.slots.size ≤ ((13 : Int32)).toNatClampNeg) := inb_of S155 ⟨by decide, by decide⟩
  obtain ⟨T156, h156, X156, e156, W156, st156⟩ := stR X151 hx hZ e151 Ar155 (j := (13 : Int32)) hin156 rfl (Sto.ofV Ar155 q155 O2 (Ins.self f153)) (g := (mkF m 96 (lc0 p1) [(.ref a148), (.int 13), (.ref b2), (.ref b2)])) rfl rfl (hb hby at_96)
  have N157 := Fr.snoc X156 N146 g13
  have f158 : Arv Z h156 b2 k2 (.object zs0) (14 : Int32) [(.ref a4), (.ref a16), (.ref a27), (.ref a38), (.ref a49), (.ref a60), (.ref a71), (.ref a82), (.ref a93), (.ref a104), (.ref a115), (.ref a126), (.ref a137), (.ref a148)] .null := Arv.set Ar155 q155 S155 N155 H155 G155 (by rfl) W156 13 rfl (Nat.le_of_ble_eq_true rfl)
  refine own_go (U' := T156.setTop (mkF m 105 (lc1 p1 b2) [(.int ((p1 &&& (2147483647 : Int32)) % (14 : Int32)))])) (fun t k => obipush X0 hx hby at_0 (st2 _ (odup X2 hx hby at_5 rfl (oiconst X2 hx hby at_6 (st7 _ (st12 _ (odup X12 hx hby at_11 rfl (oiconst X12 hx hby at_12 (st19 _ (st24 _ (odup X24 hx hby at_17 rfl (oiconst X24 hx hby at_18 (st30 _ (st35 _ (odup X35 hx hby at_23 rfl (oiconst X35 hx hby at_24 (st41 _ (st46 _ (odup X46 hx hby at_29 rfl (oiconst X46 hx hby at_30 (st52 _ (st57 _ (odup X57 hx hby at_35 rfl (oiconst X57 hx hby at_36 (st63 _ (st68 _ (odup X68 hx hby at_41 rfl (obipush X68 hx hby at_42 (st74 _ (st79 _ (odup X79 hx hby at_48 rfl (obipush X79 hx hby at_49 (st85 _ (st90 _ (odup X90 hx hby at_55 rfl (obipush X90 hx hby at_56 (st96 _ (st101 _ (odup X101 hx hby at_62 rfl (obipush X101 hx hby at_63 (st107 _ (st112 _ (odup X112 hx hby at_69 rfl (obipush X112 hx hby at_70 (st118 _ (st123 _ (odup X123 hx hby at_76 rfl (obipush X123 hx hby at_77 (st129 _ (st134 _ (odup X134 hx hby at_83 rfl (obipush X134 hx hby at_84 (st140 _ (st145 _ (odup X145 hx hby at_90 rfl (obipush X145 hx hby at_91 (st151 _ (st156 _ (oastoreN X156 hx hby at_97 (lc1 p1 b2) rfl rfl (oiloadN X156 hx hby at_98 rfl (X156.ldcInt hx hown (mvT hZ (ww hw 32 rfl)) (g := (mkF m 99 (lc1 p1 b2) [(.int p1)])) rfl (hb hby at_99) _ (oiand X156 hx hby at_101 (obipush X156 hx hby at_102 (oirem X156 hx hby at_104 (by decide) k)))))))))))))))))))))))))))))))))))))))))))))))))))))))))))))))) ?_
  rw [hv159]
  obtain ⟨cl160, Ar160, q160, S160, N160, H160, G160⟩ := id f158
  have hin161 : ¬ ((2 : Int32) < 0 ∨ cl160.slots.size ≤ ((2 : Int32)).toNatClampNeg) := inb_of S160 ⟨by decide, by decide⟩
  have hat161 : cl160.slots[((2 : Int32)).toNatClampNeg]? = some (.ref a27) := Has.at H160 hin161 rfl
  refine own_go (U' := T156.setTop (mkF m 113 (lc3 p1 b2 2 a27) [(.int 9), (.int 2)])) (fun t k => oistoreN X156 hx hby at_105 (lc2 p1 b2 2) rfl (oaloadN X156 hx hby at_106 rfl rfl (oiloadN X156 hx hby at_107 rfl (X156.aaload hx (j := (2 : Int32)) (v := (.ref a27)) (by rw [e156]; exact Ar160.1) (State.isArrayOf_alike hZ.alike Ar160.2.1) rfl Ar160.2.2 hin161 hat161 (g := (mkF m 108 (lc2 p1 b2 2) [(.int 2), (.ref b2)])) rfl rfl (hb hby at_108) _ (oastoreN X156 hx hby at_109 (lc3 p1 b2 2 a27) rfl rfl (oiloadN X156 hx hby at_110 rfl (obipush X156 hx hby at_111 k))))))) ?_
  refine own_go (U' := T156.setTop (mkF m 119 (lc3 p1 b2 2 a27) [(.int 10), (.int 2)])) (fun t k => oicN X156 hx hby at_113 (by decide) (oiloadN X156 hx hby at_116 rfl (obipush X156 hx hby at_117 k))) ?_
  have f163 : Exa Z h156 a27 zs0 := (Exa.wr W156 (Exa.wr W145 (Exa.wr W134 (Exa.wr W123 (Exa.wr W112 (Exa.wr W101 (Exa.wr W90 (Exa.wr W79 (Exa.wr W68 (Exa.wr W57 (Exa.wr W46 (Exa.wr W35 f32))))))))))))
  have f164 : Sta Z h156 zs0 "INVALID_JSON" zs1 (.ref a104) := (Sta.wr W156 (Sta.wr W145 (Sta.wr W134 (Sta.wr W123 (Sta.wr W112 f106)))))
  have f166 : Sta Z h156 zs0 "INVALID_TEXT" zs1 (.ref a115) := (Sta.wr W156 (Sta.wr W145 (Sta.wr W134 (Sta.wr W123 f117))))
  have Z_1 : n0 ≤ h2.size := Nat.le_trans Z0 E2.1
  have Z_2 : n0 ≤ h12.size := Nat.le_trans Z_1 (Keep.of_wr W12).1
  have Z_3 : n0 ≤ h24.size := Nat.le_trans Z_2 (Keep.of_wr W24).1
  have Z_4 : n0 ≤ h35.size := Nat.le_trans Z_3 (Keep.of_wr W35).1
  have Z_5 : n0 ≤ h46.size := Nat.le_trans Z_4 (Keep.of_wr W46).1
  have Z_6 : n0 ≤ h57.size := Nat.le_trans Z_5 (Keep.of_wr W57).1
  have Z_7 : n0 ≤ h68.size := Nat.le_trans Z_6 (Keep.of_wr W68).1
  have Z_8 : n0 ≤ h79.size := Nat.le_trans Z_7 (Keep.of_wr W79).1
  have Z_9 : n0 ≤ h90.size := Nat.le_trans Z_8 (Keep.of_wr W90).1
  have Z_10 : n0 ≤ h101.size := Nat.le_trans Z_9 (Keep.of_wr W101).1
  have Z_11 : n0 ≤ h112.size := Nat.le_trans Z_10 (Keep.of_wr W112).1
  have Z_12 : n0 ≤ h123.size := Nat.le_trans Z_11 (Keep.of_wr W123).1
  have Z_13 : n0 ≤ h134.size := Nat.le_trans Z_12 (Keep.of_wr W134).1
  have Z_14 : n0 ≤ h145.size := Nat.le_trans Z_13 (Keep.of_wr W145).1
  have Z_15 : n0 ≤ h156.size := Nat.le_trans Z_14 (Keep.of_wr W156).1
  obtain ⟨_, T162, L162, X162, hQ162, st162⟩ := ocallV X156 hx hZ zm0 zm0 hown (ww hw 33 rfl) (ww hw 34 rfl) (notFace_of_selects (args := #[]) (mvT hZ (ww hw 36 rfl))) (ww hw 36 rfl) (ww hw 35 rfl) (by decide) (ww hw 37 rfl) (ww hw 3 rfl) e156 f163 (rm1_0 l Z a0 hw [] a27 a104 a115 h156 n0 Z_15 f164 ha165 f166 ha167) (st := [(.ref a27)]) rfl 0 rfl (by decide) (pc := 130) (Ls := (lc4 p1 b2 2 a27 0)) hml rfl (lenOf pd_0 rfl) at_130 hby
  obtain ⟨rfl, N162q, e162⟩ := hQ162
  have N168 := Fr.app N157 N162q
  refine own_go (U' := T162.setTop (mkF m 135 (lc4 p1 b2 2 a27 0) [(.int 0), (.int 0)])) (fun t k => oicY (pc := 119) X156 hx hby at_119 126 (by decide) (by decide) (oiconst X156 hx hby at_126 (oistore X156 hx hby at_127 (lc4 p1 b2 2 a27 0) rfl (oaloadN X156 hx hby at_129 rfl rfl (st162 _ (oiload X162 hx hby at_133 rfl k)))))) ?_
  refine own_go (U' := T162.setTop (mkF m 143 (lc4 p1 b2 2 a27 0) [(.int 1)])) (fun t k => oicN X162 hx hby at_135 (by decide) (oiconst X162 hx hby at_138 (ogoto (pc := 139) X162 hx hby at_139 143 (by decide) k))) ?_
  obtain ⟨fs, hr, hrun, hended, hW, hsame⟩ := X162.leave (v := some (.int 1)) (fun h => by rw [Bd.returns] at h; cases h)
  refine own_out ⟨_, _, ?_, hrun, hended, _, _, rfl, ?_, ⟨_, rfl⟩, hW, hsame.mono (by decide) (by decide)⟩
  · exact retN X162 hx (t := .boolean) Bd.returns (by simp) (hb hby at_143) hr
  · exact ⟨rfl, N168⟩
set_option maxRecDepth 65536 in
set_option maxHeartbeats 40000000 in
theorem rm0_4 (l : Launch) (Z : State) (a0 : Array Value) (hw : ∀ d ∈ tables_1, d.before a0 Z = true) (ws : List Jvm.Cond) (p1 : Int32) (a4 : Addr) (a16 : Addr) (a27 : Addr) (a38 : Addr) (a49 : Addr) (a60 : Addr) (a71 : Addr) (a82 : Addr) (a93 : Addr) (a104 : Addr) (a115 : Addr) (a126 : Addr) (a137 : Addr) (a148 : Addr) (h0 : Heap) (n0 : Nat) (Z0 : n0 ≤ h0.size) (F5 : Sta Z h0 zs0 zs2 zs1 (.ref a4)) (F8 : Exa Z h0 a4 zs0) (F17 : Sta Z h0 zs0 zs3 zs1 (.ref a16)) (F20 : Exa Z h0 a16 zs0) (F28 : Sta Z h0 zs0 zs4 zs1 (.ref a27)) (F31 : Exa Z h0 a27 zs0) (F39 : Sta Z h0 zs0 zs5 zs1 (.ref a38)) (F42 : Exa Z h0 a38 zs0) (F50 : Sta Z h0 zs0 zs6 zs1 (.ref a49)) (F53 : Exa Z h0 a49 zs0) (F61 : Sta Z h0 zs0 zs7 zs1 (.ref a60)) (F64 : Exa Z h0 a60 zs0) (F72 : Sta Z h0 zs0 zs8 zs1 (.ref a71)) (F75 : Exa Z h0 a71 zs0) (F83 : Sta Z h0 zs0 zs9 zs1 (.ref a82)) (F86 : Exa Z h0 a82 zs0) (F94 : Sta Z h0 zs0 zs10 zs1 (.ref a93)) (F97 : Exa Z h0 a93 zs0) (F105 : Sta Z h0 zs0 "INVALID_JSON" zs1 (.ref a104)) (F108 : Exa Z h0 a104 zs0) (F116 : Sta Z h0 zs0 "INVALID_TEXT" zs1 (.ref a115)) (F119 : Exa Z h0 a115 zs0) (F127 : Sta Z h0 zs0 zs11 zs1 (.ref a126)) (F130 : Exa Z h0 a126 zs0) (F138 : Sta Z h0 zs0 zs12 zs1 (.ref a137)) (F141 : Exa Z h0 a137 zs0) (F149 : Sta Z h0 zs0 "UNKNOWN_ITEM" zs1 (.ref a148)) (F152 : Exa Z h0 a148 zs0) (hv159 : ((p1 &&& (2147483647 : Int32)) % (14 : Int32)) = (3 : Int32)) (ha165 : a38 ≠ a104) (ha167 : a38 ≠ a115) :
    MetFree l x (head1 (Jvm.Cond.code x code maxLocals ret :: ws) room_1) (fun a U => a = #[(.int p1)] ∧ Z.Warmed39 U.vm ∧ U.heap = h0) (fun _ _ _ _ _ => True) (fun _ U o U' => ∃ v L, o = .returned v ∧ QLaw n0 v U'.heap L ∧ FrameEnd U o U' L room_1.cells room_1.slots) := by
  refine MetFree.of_bodySF (plainFor_of_name pn_com_example_strict_ledger_strictledger_RefusalCodeIsAboutTextPinLaw) hisR ?_
  intro p e s m args below meth c s₁ Bd hml0 hP hK
  obtain ⟨rfl, hZ, hh⟩ := hP
  have hx := Bd.exec
  have hby := Bd.bytes
  have hml : c.maxLocals = 5 := hml0
  have hown : s.vm.findClass zs13 = some m.cls := findClass_of_methodNamed Bd.named
  have hnm := (name_of_methodNamed Bd.named Bd.method).1
  have X0 : Stand p l e room_1 s m #[(.int p1)] below meth c s₁ [] 0 0 := Stand.of_body Bd
  have e0 : s₁.heap = h0 := by rw [← hh, Bd.state]; rfl
  have N0 := Fr.nil n0
  refine own_pre (g' := mkF m 0 (lc0 p1) []) (ef_1 m p1) ?_
  obtain ⟨T2, h2, k2, X2, e2, E2, A2, B2, O2, st2⟩ := newRE X0 hx hZ hown (ww hw 0 rfl) (ww hw 1 rfl) e0 (g := (mkF m 2 (lc0 p1) [(.int 14)])) rfl (hb hby at_2) rfl (by decide) (cap := 14) (by decide) (by decide) (by decide) (by decide) (ad := zs14) (by decide)
  obtain ⟨b2, g2⟩ : ∃ z, z = h0.size := ⟨_, rfl⟩
  rw [← g2] at A2 B2 st2
  have f3 : Arv Z h2 b2 k2 (.object zs0) (14 : Int32) [] .null := Arv.new A2 (by decide)
  have f6 : Sta Z h2 zs0 zs2 zs1 (.ref a4) := (Sta.ext E2 F5)
  obtain ⟨T7, X7, e7, st7⟩ := getS2 X2 hx hZ hown (host := "") (Or.inl (ww hw 2 rfl)) Via.refl e2 f6 (g := (mkF m 7 (lc0 p1) [(.int 0), (.ref b2), (.ref b2)])) rfl (hb hby at_7)
  have f9 : Exa Z h2 a4 zs0 := (Exa.ext E2 F8)
  have f10 : Arv Z h2 b2 k2 (.object zs0) (14 : Int32) [.null] .null := f3.pad (pad_rep [] .null 1)
  obtain ⟨cl11, Ar11, q11, S11, N11, H11, G11⟩ := id f10
  have g13 : n0 ≤ b2 := Nat.le_trans Z0 (Nat.le_of_eq g2.symm)
  have hin12 : ¬ ((0 : Int32) < 0 ∨ cl11.slots.size ≤ ((0 : Int32)).toNatClampNeg) := inb_of S11 ⟨by decide, by decide⟩
  obtain ⟨T12, h12, X12, e12, W12, st12⟩ := stR X7 hx hZ e7 Ar11 (j := (0 : Int32)) hin12 rfl (Sto.ofV Ar11 q11 O2 (Ins.self f9)) (g := (mkF m 10 (lc0 p1) [(.ref a4), (.int 0), (.ref b2), (.ref b2)])) rfl rfl (hb hby at_10)
  have N14 := Fr.snoc X12 N0 g13
  have f15 : Arv Z h12 b2 k2 (.object zs0) (14 : Int32) [(.ref a4)] .null := Arv.set Ar11 q11 S11 N11 H11 G11 (by rfl) W12 0 rfl (Nat.le_of_ble_eq_true rfl)
  have f18 : Sta Z h12 zs0 zs3 zs1 (.ref a16) := (Sta.wr W12 (Sta.ext E2 F17))
  obtain ⟨T19, X19, e19, st19⟩ := getS2 X12 hx hZ hown (host := "") (Or.inl (ww hw 6 rfl)) Via.refl e12 f18 (g := (mkF m 13 (lc0 p1) [(.int 1), (.ref b2), (.ref b2)])) rfl (hb hby at_13)
  have f21 : Exa Z h12 a16 zs0 := (Exa.wr W12 (Exa.ext E2 F20))
  have f22 : Arv Z h12 b2 k2 (.object zs0) (14 : Int32) [(.ref a4), .null] .null := f15.pad (pad_rep [(.ref a4)] .null 1)
  obtain ⟨cl23, Ar23, q23, S23, N23, H23, G23⟩ := id f22
  have hin24 : ¬ ((1 : Int32) < 0 ∨ cl23.slots.size ≤ ((1 : Int32)).toNatClampNeg) := inb_of S23 ⟨by decide, by decide⟩
  obtain ⟨T24, h24, X24, e24, W24, st24⟩ := stR X19 hx hZ e19 Ar23 (j := (1 : Int32)) hin24 rfl (Sto.ofV Ar23 q23 O2 (Ins.self f21)) (g := (mkF m 16 (lc0 p1) [(.ref a16), (.int 1), (.ref b2), (.ref b2)])) rfl rfl (hb hby at_16)
  have N25 := Fr.snoc X24 N14 g13
  have f26 : Arv Z h24 b2 k2 (.object zs0) (14 : Int32) [(.ref a4), (.ref a16)] .null := Arv.set Ar23 q23 S23 N23 H23 G23 (by rfl) W24 1 rfl (Nat.le_of_ble_eq_true rfl)
  have f29 : Sta Z h24 zs0 zs4 zs1 (.ref a27) := (Sta.wr W24 (Sta.wr W12 (Sta.ext E2 F28)))
  obtain ⟨T30, X30, e30, st30⟩ := getS2 X24 hx hZ hown (host := "") (Or.inl (ww hw 8 rfl)) Via.refl e24 f29 (g := (mkF m 19 (lc0 p1) [(.int 2), (.ref b2), (.ref b2)])) rfl (hb hby at_19)
  have f32 : Exa Z h24 a27 zs0 := (Exa.wr W24 (Exa.wr W12 (Exa.ext E2 F31)))
  have f33 : Arv Z h24 b2 k2 (.object zs0) (14 : Int32) [(.ref a4), (.ref a16), .null] .null := f26.pad (pad_rep [(.ref a4), (.ref a16)] .null 1)
  obtain ⟨cl34, Ar34, q34, S34, N34, H34, G34⟩ := id f33
  have hin35 : ¬ ((2 : Int32) < 0 ∨ cl34.slots.size ≤ ((2 : Int32)).toNatClampNeg) := inb_of S34 ⟨by decide, by decide⟩
  obtain ⟨T35, h35, X35, e35, W35, st35⟩ := stR X30 hx hZ e30 Ar34 (j := (2 : Int32)) hin35 rfl (Sto.ofV Ar34 q34 O2 (Ins.self f32)) (g := (mkF m 22 (lc0 p1) [(.ref a27), (.int 2), (.ref b2), (.ref b2)])) rfl rfl (hb hby at_22)
  have N36 := Fr.snoc X35 N25 g13
  have f37 : Arv Z h35 b2 k2 (.object zs0) (14 : Int32) [(.ref a4), (.ref a16), (.ref a27)] .null := Arv.set Ar34 q34 S34 N34 H34 G34 (by rfl) W35 2 rfl (Nat.le_of_ble_eq_true rfl)
  have f40 : Sta Z h35 zs0 zs5 zs1 (.ref a38) := (Sta.wr W35 (Sta.wr W24 (Sta.wr W12 (Sta.ext E2 F39))))
  obtain ⟨T41, X41, e41, st41⟩ := getS2 X35 hx hZ hown (host := "") (Or.inl (ww hw 10 rfl)) Via.refl e35 f40 (g := (mkF m 25 (lc0 p1) [(.int 3), (.ref b2), (.ref b2)])) rfl (hb hby at_25)
  have f43 : Exa Z h35 a38 zs0 := (Exa.wr W35 (Exa.wr W24 (Exa.wr W12 (Exa.ext E2 F42))))
  have f44 : Arv Z h35 b2 k2 (.object zs0) (14 : Int32) [(.ref a4), (.ref a16), (.ref a27), .null] .null := f37.pad (pad_rep [(.ref a4), (.ref a16), (.ref a27)] .null 1)
  obtain ⟨cl45, Ar45, q45, S45, N45, H45, G45⟩ := id f44
  have hin46 : ¬ ((3 : Int32) < 0 ∨ cl45.slots.size ≤ ((3 : Int32)).toNatClampNeg) := inb_of S45 ⟨by decide, by decide⟩
  obtain ⟨T46, h46, X46, e46, W46, st46⟩ := stR X41 hx hZ e41 Ar45 (j := (3 : Int32)) hin46 rfl (Sto.ofV Ar45 q45 O2 (Ins.self f43)) (g := (mkF m 28 (lc0 p1) [(.ref a38), (.int 3), (.ref b2), (.ref b2)])) rfl rfl (hb hby at_28)
  have N47 := Fr.snoc X46 N36 g13
  have f48 : Arv Z h46 b2 k2 (.object zs0) (14 : Int32) [(.ref a4), (.ref a16), (.ref a27), (.ref a38)] .null := Arv.set Ar45 q45 S45 N45 H45 G45 (by rfl) W46 3 rfl (Nat.le_of_ble_eq_true rfl)
  have f51 : Sta Z h46 zs0 zs6 zs1 (.ref a49) := (Sta.wr W46 (Sta.wr W35 (Sta.wr W24 (Sta.wr W12 (Sta.ext E2 F50)))))
  obtain ⟨T52, X52, e52, st52⟩ := getS2 X46 hx hZ hown (host := "") (Or.inl (ww hw 12 rfl)) Via.refl e46 f51 (g := (mkF m 31 (lc0 p1) [(.int 4), (.ref b2), (.ref b2)])) rfl (hb hby at_31)
  have f54 : Exa Z h46 a49 zs0 := (Exa.wr W46 (Exa.wr W35 (Exa.wr W24 (Exa.wr W12 (Exa.ext E2 F53)))))
  have f55 : Arv Z h46 b2 k2 (.object zs0) (14 : Int32) [(.ref a4), (.ref a16), (.ref a27), (.ref a38), .null] .null := f48.pad (pad_rep [(.ref a4), (.ref a16), (.ref a27), (.ref a38)] .null 1)
  obtain ⟨cl56, Ar56, q56, S56, N56, H56, G56⟩ := id f55
  have hin57 : ¬ ((4 : Int32) < 0 ∨ cl56.slots.size ≤ ((4 : Int32)).toNatClampNeg) := inb_of S56 ⟨by decide, by decide⟩
  obtain ⟨T57, h57, X57, e57, W57, st57⟩ := stR X52 hx hZ e52 Ar56 (j := (4 : Int32)) hin57 rfl (Sto.ofV Ar56 q56 O2 (Ins.self f54)) (g := (mkF m 34 (lc0 p1) [(.ref a49), (.int 4), (.ref b2), (.ref b2)])) rfl rfl (hb hby at_34)
  have N58 := Fr.snoc X57 N47 g13
  have f59 : Arv Z h57 b2 k2 (.object zs0) (14 : Int32) [(.ref a4), (.ref a16), (.ref a27), (.ref a38), (.ref a49)] .null := Arv.set Ar56 q56 S56 N56 H56 G56 (by rfl) W57 4 rfl (Nat.le_of_ble_eq_true rfl)
  have f62 : Sta Z h57 zs0 zs7 zs1 (.ref a60) := (Sta.wr W57 (Sta.wr W46 (Sta.wr W35 (Sta.wr W24 (Sta.wr W12 (Sta.ext E2 F61))))))
  obtain ⟨T63, X63, e63, st63⟩ := getS2 X57 hx hZ hown (host := "") (Or.inl (ww hw 14 rfl)) Via.refl e57 f62 (g := (mkF m 37 (lc0 p1) [(.int 5), (.ref b2), (.ref b2)])) rfl (hb hby at_37)
  have f65 : Exa Z h57 a60 zs0 := (Exa.wr W57 (Exa.wr W46 (Exa.wr W35 (Exa.wr W24 (Exa.wr W12 (Exa.ext E2 F64))))))
  have f66 : Arv Z h57 b2 k2 (.object zs0) (14 : Int32) [(.ref a4), (.ref a16), (.ref a27), (.ref a38), (.ref a49), .null] .null := f59.pad (pad_rep [(.ref a4), (.ref a16), (.ref a27), (.ref a38), (.ref a49)] .null 1)
  obtain ⟨cl67, Ar67, q67, S67, N67, H67, G67⟩ := id f66
  have hin68 : ¬ ((5 : Int32) < 0 ∨ cl67.slots.size ≤ ((5 : Int32)).toNatClampNeg) := inb_of S67 ⟨by decide, by decide⟩
  obtain ⟨T68, h68, X68, e68, W68, st68⟩ := stR X63 hx hZ e63 Ar67 (j := (5 : Int32)) hin68 rfl (Sto.ofV Ar67 q67 O2 (Ins.self f65)) (g := (mkF m 40 (lc0 p1) [(.ref a60), (.int 5), (.ref b2), (.ref b2)])) rfl rfl (hb hby at_40)
  have N69 := Fr.snoc X68 N58 g13
  have f70 : Arv Z h68 b2 k2 (.object zs0) (14 : Int32) [(.ref a4), (.ref a16), (.ref a27), (.ref a38), (.ref a49), (.ref a60)] .null := Arv.set Ar67 q67 S67 N67 H67 G67 (by rfl) W68 5 rfl (Nat.le_of_ble_eq_true rfl)
  have f73 : Sta Z h68 zs0 zs8 zs1 (.ref a71) := (Sta.wr W68 (Sta.wr W57 (Sta.wr W46 (Sta.wr W35 (Sta.wr W24 (Sta.wr W12 (Sta.ext E2 F72)))))))
  obtain ⟨T74, X74, e74, st74⟩ := getS2 X68 hx hZ hown (host := "") (Or.inl (ww hw 16 rfl)) Via.refl e68 f73 (g := (mkF m 44 (lc0 p1) [(.int 6), (.ref b2), (.ref b2)])) rfl (hb hby at_44)
  have f76 : Exa Z h68 a71 zs0 := (Exa.wr W68 (Exa.wr W57 (Exa.wr W46 (Exa.wr W35 (Exa.wr W24 (Exa.wr W12 (Exa.ext E2 F75)))))))
  have f77 : Arv Z h68 b2 k2 (.object zs0) (14 : Int32) [(.ref a4), (.ref a16), (.ref a27), (.ref a38), (.ref a49), (.ref a60), .null] .null := f70.pad (pad_rep [(.ref a4), (.ref a16), (.ref a27), (.ref a38), (.ref a49), (.ref a60)] .null 1)
  obtain ⟨cl78, Ar78, q78, S78, N78, H78, G78⟩ := id f77
  have hin79 : ¬ ((6 : Int32) < 0 ∨ cl78.slots.size ≤ ((6 : Int32)).toNatClampNeg) := inb_of S78 ⟨by decide, by decide⟩
  obtain ⟨T79, h79, X79, e79, W79, st79⟩ := stR X74 hx hZ e74 Ar78 (j := (6 : Int32)) hin79 rfl (Sto.ofV Ar78 q78 O2 (Ins.self f76)) (g := (mkF m 47 (lc0 p1) [(.ref a71), (.int 6), (.ref b2), (.ref b2)])) rfl rfl (hb hby at_47)
  have N80 := Fr.snoc X79 N69 g13
  have f81 : Arv Z h79 b2 k2 (.object zs0) (14 : Int32) [(.ref a4), (.ref a16), (.ref a27), (.ref a38), (.ref a49), (.ref a60), (.ref a71)] .null := Arv.set Ar78 q78 S78 N78 H78 G78 (by rfl) W79 6 rfl (Nat.le_of_ble_eq_true rfl)
  have f84 : Sta Z h79 zs0 zs9 zs1 (.ref a82) := (Sta.wr W79 (Sta.wr W68 (Sta.wr W57 (Sta.wr W46 (Sta.wr W35 (Sta.wr W24 (Sta.wr W12 (Sta.ext E2 F83))))))))
  obtain ⟨T85, X85, e85, st85⟩ := getS2 X79 hx hZ hown (host := "") (Or.inl (ww hw 18 rfl)) Via.refl e79 f84 (g := (mkF m 51 (lc0 p1) [(.int 7), (.ref b2), (.ref b2)])) rfl (hb hby at_51)
  have f87 : Exa Z h79 a82 zs0 := (Exa.wr W79 (Exa.wr W68 (Exa.wr W57 (Exa.wr W46 (Exa.wr W35 (Exa.wr W24 (Exa.wr W12 (Exa.ext E2 F86))))))))
  have f88 : Arv Z h79 b2 k2 (.object zs0) (14 : Int32) [(.ref a4), (.ref a16), (.ref a27), (.ref a38), (.ref a49), (.ref a60), (.ref a71), .null] .null := f81.pad (pad_rep [(.ref a4), (.ref a16), (.ref a27), (.ref a38), (.ref a49), (.ref a60), (.ref a71)] .null 1)
  obtain ⟨cl89, Ar89, q89, S89, N89, H89, G89⟩ := id f88
  have hin90 : ¬ ((7 : Int32) < 0 ∨ cl89.slots.size ≤ ((7 : Int32)).toNatClampNeg) := inb_of S89 ⟨by decide, by decide⟩
  obtain ⟨T90, h90, X90, e90, W90, st90⟩ := stR X85 hx hZ e85 Ar89 (j := (7 : Int32)) hin90 rfl (Sto.ofV Ar89 q89 O2 (Ins.self f87)) (g := (mkF m 54 (lc0 p1) [(.ref a82), (.int 7), (.ref b2), (.ref b2)])) rfl rfl (hb hby at_54)
  have N91 := Fr.snoc X90 N80 g13
  have f92 : Arv Z h90 b2 k2 (.object zs0) (14 : Int32) [(.ref a4), (.ref a16), (.ref a27), (.ref a38), (.ref a49), (.ref a60), (.ref a71), (.ref a82)] .null := Arv.set Ar89 q89 S89 N89 H89 G89 (by rfl) W90 7 rfl (Nat.le_of_ble_eq_true rfl)
  have f95 : Sta Z h90 zs0 zs10 zs1 (.ref a93) := (Sta.wr W90 (Sta.wr W79 (Sta.wr W68 (Sta.wr W57 (Sta.wr W46 (Sta.wr W35 (Sta.wr W24 (Sta.wr W12 (Sta.ext E2 F94)))))))))
  obtain ⟨T96, X96, e96, st96⟩ := getS2 X90 hx hZ hown (host := "") (Or.inl (ww hw 20 rfl)) Via.refl e90 f95 (g := (mkF m 58 (lc0 p1) [(.int 8), (.ref b2), (.ref b2)])) rfl (hb hby at_58)
  have f98 : Exa Z h90 a93 zs0 := (Exa.wr W90 (Exa.wr W79 (Exa.wr W68 (Exa.wr W57 (Exa.wr W46 (Exa.wr W35 (Exa.wr W24 (Exa.wr W12 (Exa.ext E2 F97)))))))))
  have f99 : Arv Z h90 b2 k2 (.object zs0) (14 : Int32) [(.ref a4), (.ref a16), (.ref a27), (.ref a38), (.ref a49), (.ref a60), (.ref a71), (.ref a82), .null] .null := f92.pad (pad_rep [(.ref a4), (.ref a16), (.ref a27), (.ref a38), (.ref a49), (.ref a60), (.ref a71), (.ref a82)] .null 1)
  obtain ⟨cl100, Ar100, q100, S100, N100, H100, G100⟩ := id f99
  have hin101 : ¬ ((8 : Int32) < 0 ∨ cl100.slots.size ≤ ((8 : Int32)).toNatClampNeg) := inb_of S100 ⟨by decide, by decide⟩
  obtain ⟨T101, h101, X101, e101, W101, st101⟩ := stR X96 hx hZ e96 Ar100 (j := (8 : Int32)) hin101 rfl (Sto.ofV Ar100 q100 O2 (Ins.self f98)) (g := (mkF m 61 (lc0 p1) [(.ref a93), (.int 8), (.ref b2), (.ref b2)])) rfl rfl (hb hby at_61)
  have N102 := Fr.snoc X101 N91 g13
  have f103 : Arv Z h101 b2 k2 (.object zs0) (14 : Int32) [(.ref a4), (.ref a16), (.ref a27), (.ref a38), (.ref a49), (.ref a60), (.ref a71), (.ref a82), (.ref a93)] .null := Arv.set Ar100 q100 S100 N100 H100 G100 (by rfl) W101 8 rfl (Nat.le_of_ble_eq_true rfl)
  have f106 : Sta Z h101 zs0 "INVALID_JSON" zs1 (.ref a104) := (Sta.wr W101 (Sta.wr W90 (Sta.wr W79 (Sta.wr W68 (Sta.wr W57 (Sta.wr W46 (Sta.wr W35 (Sta.wr W24 (Sta.wr W12 (Sta.ext E2 F105))))))))))
  obtain ⟨T107, X107, e107, st107⟩ := getS2 X101 hx hZ hown (host := "") (Or.inl (ww hw 22 rfl)) Via.refl e101 f106 (g := (mkF m 65 (lc0 p1) [(.int 9), (.ref b2), (.ref b2)])) rfl (hb hby at_65)
  have f109 : Exa Z h101 a104 zs0 := (Exa.wr W101 (Exa.wr W90 (Exa.wr W79 (Exa.wr W68 (Exa.wr W57 (Exa.wr W46 (Exa.wr W35 (Exa.wr W24 (Exa.wr W12 (Exa.ext E2 F108))))))))))
  have f110 : Arv Z h101 b2 k2 (.object zs0) (14 : Int32) [(.ref a4), (.ref a16), (.ref a27), (.ref a38), (.ref a49), (.ref a60), (.ref a71), (.ref a82), (.ref a93), .null] .null := f103.pad (pad_rep [(.ref a4), (.ref a16), (.ref a27), (.ref a38), (.ref a49), (.ref a60), (.ref a71), (.ref a82), (.ref a93)] .null 1)
  obtain ⟨cl111, Ar111, q111, S111, N111, H111, G111⟩ := id f110
  have hin112 : ¬ ((9 : Int32) < 0 ∨ cl111.slots.size ≤ ((9 : Int32)).toNatClampNeg) := inb_of S111 ⟨by decide, by decide⟩
  obtain ⟨T112, h112, X112, e112, W112, st112⟩ := stR X107 hx hZ e107 Ar111 (j := (9 : Int32)) hin112 rfl (Sto.ofV Ar111 q111 O2 (Ins.self f109)) (g := (mkF m 68 (lc0 p1) [(.ref a104), (.int 9), (.ref b2), (.ref b2)])) rfl rfl (hb hby at_68)
  have N113 := Fr.snoc X112 N102 g13
  have f114 : Arv Z h112 b2 k2 (.object zs0) (14 : Int32) [(.ref a4), (.ref a16), (.ref a27), (.ref a38), (.ref a49), (.ref a60), (.ref a71), (.ref a82), (.ref a93), (.ref a104)] .null := Arv.set Ar111 q111 S111 N111 H111 G111 (by rfl) W112 9 rfl (Nat.le_of_ble_eq_true rfl)
  have f117 : Sta Z h112 zs0 "INVALID_TEXT" zs1 (.ref a115) := (Sta.wr W112 (Sta.wr W101 (Sta.wr W90 (Sta.wr W79 (Sta.wr W68 (Sta.wr W57 (Sta.wr W46 (Sta.wr W35 (Sta.wr W24 (Sta.wr W12 (Sta.ext E2 F116)))))))))))
  obtain ⟨T118, X118, e118, st118⟩ := getS2 X112 hx hZ hown (host := "") (Or.inl (ww hw 24 rfl)) Via.refl e112 f117 (g := (mkF m 72 (lc0 p1) [(.int 10), (.ref b2), (.ref b2)])) rfl (hb hby at_72)
  have f120 : Exa Z h112 a115 zs0 := (Exa.wr W112 (Exa.wr W101 (Exa.wr W90 (Exa.wr W79 (Exa.wr W68 (Exa.wr W57 (Exa.wr W46 (Exa.wr W35 (Exa.wr W24 (Exa.wr W12 (Exa.ext E2 F119)))))))))))
  have f121 : Arv Z h112 b2 k2 (.object zs0) (14 : Int32) [(.ref a4), (.ref a16), (.ref a27), (.ref a38), (.ref a49), (.ref a60), (.ref a71), (.ref a82), (.ref a93), (.ref a104), .null] .null := f114.pad (pad_rep [(.ref a4), (.ref a16), (.ref a27), (.ref a38), (.ref a49), (.ref a60), (.ref a71), (.ref a82), (.ref a93), (.ref a104)] .null 1)
  obtain ⟨cl122, Ar122, q122, S122, N122, H122, G122⟩ := id f121
  have hin123 : ¬ ((10 : Int32) < 0 ∨ cl122.slots.size ≤ ((10 : Int32)).toNatClampNeg) := inb_of S122 ⟨by decide, by decide⟩
  obtain ⟨T123, h123, X123, e123, W123, st123⟩ := stR X118 hx hZ e118 Ar122 (j := (10 : Int32)) hin123 rfl (Sto.ofV Ar122 q122 O2 (Ins.self f120)) (g := (mkF m 75 (lc0 p1) [(.ref a115), (.int 10), (.ref b2), (.ref b2)])) rfl rfl (hb hby at_75)
  have N124 := Fr.snoc X123 N113 g13
  have f125 : Arv Z h123 b2 k2 (.object zs0) (14 : Int32) [(.ref a4), (.ref a16), (.ref a27), (.ref a38), (.ref a49), (.ref a60), (.ref a71), (.ref a82), (.ref a93), (.ref a104), (.ref a115)] .null := Arv.set Ar122 q122 S122 N122 H122 G122 (by rfl) W123 10 rfl (Nat.le_of_ble_eq_true rfl)
  have f128 : Sta Z h123 zs0 zs11 zs1 (.ref a126) := (Sta.wr W123 (Sta.wr W112 (Sta.wr W101 (Sta.wr W90 (Sta.wr W79 (Sta.wr W68 (Sta.wr W57 (Sta.wr W46 (Sta.wr W35 (Sta.wr W24 (Sta.wr W12 (Sta.ext E2 F127))))))))))))
  obtain ⟨T129, X129, e129, st129⟩ := getS2 X123 hx hZ hown (host := "") (Or.inl (ww hw 26 rfl)) Via.refl e123 f128 (g := (mkF m 79 (lc0 p1) [(.int 11), (.ref b2), (.ref b2)])) rfl (hb hby at_79)
  have f131 : Exa Z h123 a126 zs0 := (Exa.wr W123 (Exa.wr W112 (Exa.wr W101 (Exa.wr W90 (Exa.wr W79 (Exa.wr W68 (Exa.wr W57 (Exa.wr W46 (Exa.wr W35 (Exa.wr W24 (Exa.wr W12 (Exa.ext E2 F130))))))))))))
  have f132 : Arv Z h123 b2 k2 (.object zs0) (14 : Int32) [(.ref a4), (.ref a16), (.ref a27), (.ref a38), (.ref a49), (.ref a60), (.ref a71), (.ref a82), (.ref a93), (.ref a104), (.ref a115), .null] .null := f125.pad (pad_rep [(.ref a4), (.ref a16), (.ref a27), (.ref a38), (.ref a49), (.ref a60), (.ref a71), (.ref a82), (.ref a93), (.ref a104), (.ref a115)] .null 1)
  obtain ⟨cl133, Ar133, q133, S133, N133, H133, G133⟩ := id f132
  have hin134 : ¬ ((11 : Int32) < 0 ∨ cl133.slots.size ≤ ((11 : Int32)).toNatClampNeg) := inb_of S133 ⟨by decide, by decide⟩
  obtain ⟨T134, h134, X134, e134, W134, st134⟩ := stR X129 hx hZ e129 Ar133 (j := (11 : Int32)) hin134 rfl (Sto.ofV Ar133 q133 O2 (Ins.self f131)) (g := (mkF m 82 (lc0 p1) [(.ref a126), (.int 11), (.ref b2), (.ref b2)])) rfl rfl (hb hby at_82)
  have N135 := Fr.snoc X134 N124 g13
  have f136 : Arv Z h134 b2 k2 (.object zs0) (14 : Int32) [(.ref a4), (.ref a16), (.ref a27), (.ref a38), (.ref a49), (.ref a60), (.ref a71), (.ref a82), (.ref a93), (.ref a104), (.ref a115), (.ref a126)] .null := Arv.set Ar133 q133 S133 N133 H133 G133 (by rfl) W134 11 rfl (Nat.le_of_ble_eq_true rfl)
  have f139 : Sta Z h134 zs0 zs12 zs1 (.ref a137) := (Sta.wr W134 (Sta.wr W123 (Sta.wr W112 (Sta.wr W101 (Sta.wr W90 (Sta.wr W79 (Sta.wr W68 (Sta.wr W57 (Sta.wr W46 (Sta.wr W35 (Sta.wr W24 (Sta.wr W12 (Sta.ext E2 F138)))))))))))))
  obtain ⟨T140, X140, e140, st140⟩ := getS2 X134 hx hZ hown (host := "") (Or.inl (ww hw 28 rfl)) Via.refl e134 f139 (g := (mkF m 86 (lc0 p1) [(.int 12), (.ref b2), (.ref b2)])) rfl (hb hby at_86)
  have f142 : Exa Z h134 a137 zs0 := (Exa.wr W134 (Exa.wr W123 (Exa.wr W112 (Exa.wr W101 (Exa.wr W90 (Exa.wr W79 (Exa.wr W68 (Exa.wr W57 (Exa.wr W46 (Exa.wr W35 (Exa.wr W24 (Exa.wr W12 (Exa.ext E2 F141)))))))))))))
  have f143 : Arv Z h134 b2 k2 (.object zs0) (14 : Int32) [(.ref a4), (.ref a16), (.ref a27), (.ref a38), (.ref a49), (.ref a60), (.ref a71), (.ref a82), (.ref a93), (.ref a104), (.ref a115), (.ref a126), .null] .null := f136.pad (pad_rep [(.ref a4), (.ref a16), (.ref a27), (.ref a38), (.ref a49), (.ref a60), (.ref a71), (.ref a82), (.ref a93), (.ref a104), (.ref a115), (.ref a126)] .null 1)
  obtain ⟨cl144, Ar144, q144, S144, N144, H144, G144⟩ := id f143
  have hin145 : ¬ ((12 : Int32) < 0 ∨ cl144.slots.size ≤ ((12 : Int32)).toNatClampNeg) := inb_of S144 ⟨by decide, by decide⟩
  obtain ⟨T145, h145, X145, e145, W145, st145⟩ := stR X140 hx hZ e140 Ar144 (j := (12 : Int32)) hin145 rfl (Sto.ofV Ar144 q144 O2 (Ins.self f142)) (g := (mkF m 89 (lc0 p1) [(.ref a137), (.int 12), (.ref b2), (.ref b2)])) rfl rfl (hb hby at_89)
  have N146 := Fr.snoc X145 N135 g13
  have f147 : Arv Z h145 b2 k2 (.object zs0) (14 : Int32) [(.ref a4), (.ref a16), (.ref a27), (.ref a38), (.ref a49), (.ref a60), (.ref a71), (.ref a82), (.ref a93), (.ref a104), (.ref a115), (.ref a126), (.ref a137)] .null := Arv.set Ar144 q144 S144 N144 H144 G144 (by rfl) W145 12 rfl (Nat.le_of_ble_eq_true rfl)
  have f150 : Sta Z h145 zs0 "UNKNOWN_ITEM" zs1 (.ref a148) := (Sta.wr W145 (Sta.wr W134 (Sta.wr W123 (Sta.wr W112 (Sta.wr W101 (Sta.wr W90 (Sta.wr W79 (Sta.wr W68 (Sta.wr W57 (Sta.wr W46 (Sta.wr W35 (Sta.wr W24 (Sta.wr W12 (Sta.ext E2 F149))))))))))))))
  obtain ⟨T151, X151, e151, st151⟩ := getS2 X145 hx hZ hown (host := "") (Or.inl (ww hw 30 rfl)) Via.refl e145 f150 (g := (mkF m 93 (lc0 p1) [(.int 13), (.ref b2), (.ref b2)])) rfl (hb hby at_93)
  have f153 : Exa Z h145 a148 zs0 := (Exa.wr W145 (Exa.wr W134 (Exa.wr W123 (Exa.wr W112 (Exa.wr W101 (Exa.wr W90 (Exa.wr W79 (Exa.wr W68 (Exa.wr W57 (Exa.wr W46 (Exa.wr W35 (Exa.wr W24 (Exa.wr W12 (Exa.ext E2 F152))))))))))))))
  have f154 : Arv Z h145 b2 k2 (.object zs0) (14 : Int32) [(.ref a4), (.ref a16), (.ref a27), (.ref a38), (.ref a49), (.ref a60), (.ref a71), (.ref a82), (.ref a93), (.ref a104), (.ref a115), (.ref a126), (.ref a137), .null] .null := f147.pad (pad_rep [(.ref a4), (.ref a16), (.ref a27), (.ref a38), (.ref a49), (.ref a60), (.ref a71), (.ref a82), (.ref a93), (.ref a104), (.ref a115), (.ref a126), (.ref a137)] .null 1)
  obtain ⟨cl155, Ar155, q155, S155, N155, H155, G155⟩ := id f154
  have hin156 : ¬ ((13 : Int32) < 0 ∨ cl155.slots.size ≤ ((13 : Int32)).toNatClampNeg) := inb_of S155 ⟨by decide, by decide⟩
  obtain ⟨T156, h156, X156, e156, W156, st156⟩ := stR X151 hx hZ e151 Ar155 (j := (13 : Int32)) hin156 rfl (Sto.ofV Ar155 q155 O2 (Ins.self f153)) (g := (mkF m 96 (lc0 p1) [(.ref a148), (.int 13), (.ref b2), (.ref b2)])) rfl rfl (hb hby at_96)
  have N157 := Fr.snoc X156 N146 g13
  have f158 : Arv Z h156 b2 k2 (.object zs0) (14 : Int32) [(.ref a4), (.ref a16), (.ref a27), (.ref a38), (.ref a49), (.ref a60), (.ref a71), (.ref a82), (.ref a93), (.ref a104), (.ref a115), (.ref a126), (.ref a137), (.ref a148)] .null := Arv.set Ar155 q155 S155 N155 H155 G155 (by rfl) W156 13 rfl (Nat.le_of_ble_eq_true rfl)
  refine own_go (U' := T156.setTop (mkF m 105 (lc1 p1 b2) [(.int ((p1 &&& (2147483647 : Int32)) % (14 : Int32)))])) (fun t k => obipush X0 hx hby at_0 (st2 _ (odup X2 hx hby at_5 rfl (oiconst X2 hx hby at_6 (st7 _ (st12 _ (odup X12 hx hby at_11 rfl (oiconst X12 hx hby at_12 (st19 _ (st24 _ (odup X24 hx hby at_17 rfl (oiconst X24 hx hby at_18 (st30 _ (st35 _ (odup X35 hx hby at_23 rfl (oiconst X35 hx hby at_24 (st41 _ (st46 _ (odup X46 hx hby at_29 rfl (oiconst X46 hx hby at_30 (st52 _ (st57 _ (odup X57 hx hby at_35 rfl (oiconst X57 hx hby at_36 (st63 _ (st68 _ (odup X68 hx hby at_41 rfl (obipush X68 hx hby at_42 (st74 _ (st79 _ (odup X79 hx hby at_48 rfl (obipush X79 hx hby at_49 (st85 _ (st90 _ (odup X90 hx hby at_55 rfl (obipush X90 hx hby at_56 (st96 _ (st101 _ (odup X101 hx hby at_62 rfl (obipush X101 hx hby at_63 (st107 _ (st112 _ (odup X112 hx hby at_69 rfl (obipush X112 hx hby at_70 (st118 _ (st123 _ (odup X123 hx hby at_76 rfl (obipush X123 hx hby at_77 (st129 _ (st134 _ (odup X134 hx hby at_83 rfl (obipush X134 hx hby at_84 (st140 _ (st145 _ (odup X145 hx hby at_90 rfl (obipush X145 hx hby at_91 (st151 _ (st156 _ (oastoreN X156 hx hby at_97 (lc1 p1 b2) rfl rfl (oiloadN X156 hx hby at_98 rfl (X156.ldcInt hx hown (mvT hZ (ww hw 32 rfl)) (g := (mkF m 99 (lc1 p1 b2) [(.int p1)])) rfl (hb hby at_99) _ (oiand X156 hx hby at_101 (obipush X156 hx hby at_102 (oirem X156 hx hby at_104 (by decide) k)))))))))))))))))))))))))))))))))))))))))))))))))))))))))))))))) ?_
  rw [hv159]
  obtain ⟨cl160, Ar160, q160, S160, N160, H160, G160⟩ := id f158
  have hin161 : ¬ ((3 : Int32) < 0 ∨ cl160.slots.size ≤ ((3 : Int32)).toNatClampNeg) := inb_of S160 ⟨by decide, by decide⟩
  have hat161 : cl160.slots[((3 : Int32)).toNatClampNeg]? = some (.ref a38) := Has.at H160 hin161 rfl
  refine own_go (U' := T156.setTop (mkF m 113 (lc3 p1 b2 3 a38) [(.int 9), (.int 3)])) (fun t k => oistoreN X156 hx hby at_105 (lc2 p1 b2 3) rfl (oaloadN X156 hx hby at_106 rfl rfl (oiloadN X156 hx hby at_107 rfl (X156.aaload hx (j := (3 : Int32)) (v := (.ref a38)) (by rw [e156]; exact Ar160.1) (State.isArrayOf_alike hZ.alike Ar160.2.1) rfl Ar160.2.2 hin161 hat161 (g := (mkF m 108 (lc2 p1 b2 3) [(.int 3), (.ref b2)])) rfl rfl (hb hby at_108) _ (oastoreN X156 hx hby at_109 (lc3 p1 b2 3 a38) rfl rfl (oiloadN X156 hx hby at_110 rfl (obipush X156 hx hby at_111 k))))))) ?_
  refine own_go (U' := T156.setTop (mkF m 119 (lc3 p1 b2 3 a38) [(.int 10), (.int 3)])) (fun t k => oicN X156 hx hby at_113 (by decide) (oiloadN X156 hx hby at_116 rfl (obipush X156 hx hby at_117 k))) ?_
  have f163 : Exa Z h156 a38 zs0 := (Exa.wr W156 (Exa.wr W145 (Exa.wr W134 (Exa.wr W123 (Exa.wr W112 (Exa.wr W101 (Exa.wr W90 (Exa.wr W79 (Exa.wr W68 (Exa.wr W57 (Exa.wr W46 f43)))))))))))
  have f164 : Sta Z h156 zs0 "INVALID_JSON" zs1 (.ref a104) := (Sta.wr W156 (Sta.wr W145 (Sta.wr W134 (Sta.wr W123 (Sta.wr W112 f106)))))
  have f166 : Sta Z h156 zs0 "INVALID_TEXT" zs1 (.ref a115) := (Sta.wr W156 (Sta.wr W145 (Sta.wr W134 (Sta.wr W123 f117))))
  have Z_1 : n0 ≤ h2.size := Nat.le_trans Z0 E2.1
  have Z_2 : n0 ≤ h12.size := Nat.le_trans Z_1 (Keep.of_wr W12).1
  have Z_3 : n0 ≤ h24.size := Nat.le_trans Z_2 (Keep.of_wr W24).1
  have Z_4 : n0 ≤ h35.size := Nat.le_trans Z_3 (Keep.of_wr W35).1
  have Z_5 : n0 ≤ h46.size := Nat.le_trans Z_4 (Keep.of_wr W46).1
  have Z_6 : n0 ≤ h57.size := Nat.le_trans Z_5 (Keep.of_wr W57).1
  have Z_7 : n0 ≤ h68.size := Nat.le_trans Z_6 (Keep.of_wr W68).1
  have Z_8 : n0 ≤ h79.size := Nat.le_trans Z_7 (Keep.of_wr W79).1
  have Z_9 : n0 ≤ h90.size := Nat.le_trans Z_8 (Keep.of_wr W90).1
  have Z_10 : n0 ≤ h101.size := Nat.le_trans Z_9 (Keep.of_wr W101).1
  have Z_11 : n0 ≤ h112.size := Nat.le_trans Z_10 (Keep.of_wr W112).1
  have Z_12 : n0 ≤ h123.size := Nat.le_trans Z_11 (Keep.of_wr W123).1
  have Z_13 : n0 ≤ h134.size := Nat.le_trans Z_12 (Keep.of_wr W134).1
  have Z_14 : n0 ≤ h145.size := Nat.le_trans Z_13 (Keep.of_wr W145).1
  have Z_15 : n0 ≤ h156.size := Nat.le_trans Z_14 (Keep.of_wr W156).1
  obtain ⟨_, T162, L162, X162, hQ162, st162⟩ := ocallV X156 hx hZ zm0 zm0 hown (ww hw 33 rfl) (ww hw 34 rfl) (notFace_of_selects (args := #[]) (mvT hZ (ww hw 36 rfl))) (ww hw 36 rfl) (ww hw 35 rfl) (by decide) (ww hw 37 rfl) (ww hw 3 rfl) e156 f163 (rm1_0 l Z a0 hw [] a38 a104 a115 h156 n0 Z_15 f164 ha165 f166 ha167) (st := [(.ref a38)]) rfl 0 rfl (by decide) (pc := 130) (Ls := (lc4 p1 b2 3 a38 0)) hml rfl (lenOf pd_0 rfl) at_130 hby
  obtain ⟨rfl, N162q, e162⟩ := hQ162
  have N168 := Fr.app N157 N162q
  refine own_go (U' := T162.setTop (mkF m 135 (lc4 p1 b2 3 a38 0) [(.int 0), (.int 0)])) (fun t k => oicY (pc := 119) X156 hx hby at_119 126 (by decide) (by decide) (oiconst X156 hx hby at_126 (oistore X156 hx hby at_127 (lc4 p1 b2 3 a38 0) rfl (oaloadN X156 hx hby at_129 rfl rfl (st162 _ (oiload X162 hx hby at_133 rfl k)))))) ?_
  refine own_go (U' := T162.setTop (mkF m 143 (lc4 p1 b2 3 a38 0) [(.int 1)])) (fun t k => oicN X162 hx hby at_135 (by decide) (oiconst X162 hx hby at_138 (ogoto (pc := 139) X162 hx hby at_139 143 (by decide) k))) ?_
  obtain ⟨fs, hr, hrun, hended, hW, hsame⟩ := X162.leave (v := some (.int 1)) (fun h => by rw [Bd.returns] at h; cases h)
  refine own_out ⟨_, _, ?_, hrun, hended, _, _, rfl, ?_, ⟨_, rfl⟩, hW, hsame.mono (by decide) (by decide)⟩
  · exact retN X162 hx (t := .boolean) Bd.returns (by simp) (hb hby at_143) hr
  · exact ⟨rfl, N168⟩
set_option maxRecDepth 65536 in
set_option maxHeartbeats 40000000 in
theorem rm0_5 (l : Launch) (Z : State) (a0 : Array Value) (hw : ∀ d ∈ tables_1, d.before a0 Z = true) (ws : List Jvm.Cond) (p1 : Int32) (a4 : Addr) (a16 : Addr) (a27 : Addr) (a38 : Addr) (a49 : Addr) (a60 : Addr) (a71 : Addr) (a82 : Addr) (a93 : Addr) (a104 : Addr) (a115 : Addr) (a126 : Addr) (a137 : Addr) (a148 : Addr) (h0 : Heap) (n0 : Nat) (Z0 : n0 ≤ h0.size) (F5 : Sta Z h0 zs0 zs2 zs1 (.ref a4)) (F8 : Exa Z h0 a4 zs0) (F17 : Sta Z h0 zs0 zs3 zs1 (.ref a16)) (F20 : Exa Z h0 a16 zs0) (F28 : Sta Z h0 zs0 zs4 zs1 (.ref a27)) (F31 : Exa Z h0 a27 zs0) (F39 : Sta Z h0 zs0 zs5 zs1 (.ref a38)) (F42 : Exa Z h0 a38 zs0) (F50 : Sta Z h0 zs0 zs6 zs1 (.ref a49)) (F53 : Exa Z h0 a49 zs0) (F61 : Sta Z h0 zs0 zs7 zs1 (.ref a60)) (F64 : Exa Z h0 a60 zs0) (F72 : Sta Z h0 zs0 zs8 zs1 (.ref a71)) (F75 : Exa Z h0 a71 zs0) (F83 : Sta Z h0 zs0 zs9 zs1 (.ref a82)) (F86 : Exa Z h0 a82 zs0) (F94 : Sta Z h0 zs0 zs10 zs1 (.ref a93)) (F97 : Exa Z h0 a93 zs0) (F105 : Sta Z h0 zs0 "INVALID_JSON" zs1 (.ref a104)) (F108 : Exa Z h0 a104 zs0) (F116 : Sta Z h0 zs0 "INVALID_TEXT" zs1 (.ref a115)) (F119 : Exa Z h0 a115 zs0) (F127 : Sta Z h0 zs0 zs11 zs1 (.ref a126)) (F130 : Exa Z h0 a126 zs0) (F138 : Sta Z h0 zs0 zs12 zs1 (.ref a137)) (F141 : Exa Z h0 a137 zs0) (F149 : Sta Z h0 zs0 "UNKNOWN_ITEM" zs1 (.ref a148)) (F152 : Exa Z h0 a148 zs0) (hv159 : ((p1 &&& (2147483647 : Int32)) % (14 : Int32)) = (4 : Int32)) (ha165 : a49 ≠ a104) (ha167 : a49 ≠ a115) :
    MetFree l x (head1 (Jvm.Cond.code x code maxLocals ret :: ws) room_1) (fun a U => a = #[(.int p1)] ∧ Z.Warmed39 U.vm ∧ U.heap = h0) (fun _ _ _ _ _ => True) (fun _ U o U' => ∃ v L, o = .returned v ∧ QLaw n0 v U'.heap L ∧ FrameEnd U o U' L room_1.cells room_1.slots) := by
  refine MetFree.of_bodySF (plainFor_of_name pn_com_example_strict_ledger_strictledger_RefusalCodeIsAboutTextPinLaw) hisR ?_
  intro p e s m args below meth c s₁ Bd hml0 hP hK
  obtain ⟨rfl, hZ, hh⟩ := hP
  have hx := Bd.exec
  have hby := Bd.bytes
  have hml : c.maxLocals = 5 := hml0
  have hown : s.vm.findClass zs13 = some m.cls := findClass_of_methodNamed Bd.named
  have hnm := (name_of_methodNamed Bd.named Bd.method).1
  have X0 : Stand p l e room_1 s m #[(.int p1)] below meth c s₁ [] 0 0 := Stand.of_body Bd
  have e0 : s₁.heap = h0 := by rw [← hh, Bd.state]; rfl
  have N0 := Fr.nil n0
  refine own_pre (g' := mkF m 0 (lc0 p1) []) (ef_1 m p1) ?_
  obtain ⟨T2, h2, k2, X2, e2, E2, A2, B2, O2, st2⟩ := newRE X0 hx hZ hown (ww hw 0 rfl) (ww hw 1 rfl) e0 (g := (mkF m 2 (lc0 p1) [(.int 14)])) rfl (hb hby at_2) rfl (by decide) (cap := 14) (by decide) (by decide) (by decide) (by decide) (ad := zs14) (by decide)
  obtain ⟨b2, g2⟩ : ∃ z, z = h0.size := ⟨_, rfl⟩
  rw [← g2] at A2 B2 st2
  have f3 : Arv Z h2 b2 k2 (.object zs0) (14 : Int32) [] .null := Arv.new A2 (by decide)
  have f6 : Sta Z h2 zs0 zs2 zs1 (.ref a4) := (Sta.ext E2 F5)
  obtain ⟨T7, X7, e7, st7⟩ := getS2 X2 hx hZ hown (host := "") (Or.inl (ww hw 2 rfl)) Via.refl e2 f6 (g := (mkF m 7 (lc0 p1) [(.int 0), (.ref b2), (.ref b2)])) rfl (hb hby at_7)
  have f9 : Exa Z h2 a4 zs0 := (Exa.ext E2 F8)
  have f10 : Arv Z h2 b2 k2 (.object zs0) (14 : Int32) [.null] .null := f3.pad (pad_rep [] .null 1)
  obtain ⟨cl11, Ar11, q11, S11, N11, H11, G11⟩ := id f10
  have g13 : n0 ≤ b2 := Nat.le_trans Z0 (Nat.le_of_eq g2.symm)
  have hin12 : ¬ ((0 : Int32) < 0 ∨ cl11.slots.size ≤ ((0 : Int32)).toNatClampNeg) := inb_of S11 ⟨by decide, by decide⟩
  obtain ⟨T12, h12, X12, e12, W12, st12⟩ := stR X7 hx hZ e7 Ar11 (j := (0 : Int32)) hin12 rfl (Sto.ofV Ar11 q11 O2 (Ins.self f9)) (g := (mkF m 10 (lc0 p1) [(.ref a4), (.int 0), (.ref b2), (.ref b2)])) rfl rfl (hb hby at_10)
  have N14 := Fr.snoc X12 N0 g13
  have f15 : Arv Z h12 b2 k2 (.object zs0) (14 : Int32) [(.ref a4)] .null := Arv.set Ar11 q11 S11 N11 H11 G11 (by rfl) W12 0 rfl (Nat.le_of_ble_eq_true rfl)
  have f18 : Sta Z h12 zs0 zs3 zs1 (.ref a16) := (Sta.wr W12 (Sta.ext E2 F17))
  obtain ⟨T19, X19, e19, st19⟩ := getS2 X12 hx hZ hown (host := "") (Or.inl (ww hw 6 rfl)) Via.refl e12 f18 (g := (mkF m 13 (lc0 p1) [(.int 1), (.ref b2), (.ref b2)])) rfl (hb hby at_13)
  have f21 : Exa Z h12 a16 zs0 := (Exa.wr W12 (Exa.ext E2 F20))
  have f22 : Arv Z h12 b2 k2 (.object zs0) (14 : Int32) [(.ref a4), .null] .null := f15.pad (pad_rep [(.ref a4)] .null 1)
  obtain ⟨cl23, Ar23, q23, S23, N23, H23, G23⟩ := id f22
  have hin24 : ¬ ((1 : Int32) < 0 ∨ cl23.slots.size ≤ ((1 : Int32)).toNatClampNeg) := inb_of S23 ⟨by decide, by decide⟩
  obtain ⟨T24, h24, X24, e24, W24, st24⟩ := stR X19 hx hZ e19 Ar23 (j := (1 : Int32)) hin24 rfl (Sto.ofV Ar23 q23 O2 (Ins.self f21)) (g := (mkF m 16 (lc0 p1) [(.ref a16), (.int 1), (.ref b2), (.ref b2)])) rfl rfl (hb hby at_16)
  have N25 := Fr.snoc X24 N14 g13
  have f26 : Arv Z h24 b2 k2 (.object zs0) (14 : Int32) [(.ref a4), (.ref a16)] .null := Arv.set Ar23 q23 S23 N23 H23 G23 (by rfl) W24 1 rfl (Nat.le_of_ble_eq_true rfl)
  have f29 : Sta Z h24 zs0 zs4 zs1 (.ref a27) := (Sta.wr W24 (Sta.wr W12 (Sta.ext E2 F28)))
  obtain ⟨T30, X30, e30, st30⟩ := getS2 X24 hx hZ hown (host := "") (Or.inl (ww hw 8 rfl)) Via.refl e24 f29 (g := (mkF m 19 (lc0 p1) [(.int 2), (.ref b2), (.ref b2)])) rfl (hb hby at_19)
  have f32 : Exa Z h24 a27 zs0 := (Exa.wr W24 (Exa.wr W12 (Exa.ext E2 F31)))
  have f33 : Arv Z h24 b2 k2 (.object zs0) (14 : Int32) [(.ref a4), (.ref a16), .null] .null := f26.pad (pad_rep [(.ref a4), (.ref a16)] .null 1)
  obtain ⟨cl34, Ar34, q34, S34, N34, H34, G34⟩ := id f33
  have hin35 : ¬ ((2 : Int32) < 0 ∨ cl34.slots.size ≤ ((2 : Int32)).toNatClampNeg) := inb_of S34 ⟨by decide, by decide⟩
  obtain ⟨T35, h35, X35, e35, W35, st35⟩ := stR X30 hx hZ e30 Ar34 (j := (2 : Int32)) hin35 rfl (Sto.ofV Ar34 q34 O2 (Ins.self f32)) (g := (mkF m 22 (lc0 p1) [(.ref a27), (.int 2), (.ref b2), (.ref b2)])) rfl rfl (hb hby at_22)
  have N36 := Fr.snoc X35 N25 g13
  have f37 : Arv Z h35 b2 k2 (.object zs0) (14 : Int32) [(.ref a4), (.ref a16), (.ref a27)] .null := Arv.set Ar34 q34 S34 N34 H34 G34 (by rfl) W35 2 rfl (Nat.le_of_ble_eq_true rfl)
  have f40 : Sta Z h35 zs0 zs5 zs1 (.ref a38) := (Sta.wr W35 (Sta.wr W24 (Sta.wr W12 (Sta.ext E2 F39))))
  obtain ⟨T41, X41, e41, st41⟩ := getS2 X35 hx hZ hown (host := "") (Or.inl (ww hw 10 rfl)) Via.refl e35 f40 (g := (mkF m 25 (lc0 p1) [(.int 3), (.ref b2), (.ref b2)])) rfl (hb hby at_25)
  have f43 : Exa Z h35 a38 zs0 := (Exa.wr W35 (Exa.wr W24 (Exa.wr W12 (Exa.ext E2 F42))))
  have f44 : Arv Z h35 b2 k2 (.object zs0) (14 : Int32) [(.ref a4), (.ref a16), (.ref a27), .null] .null := f37.pad (pad_rep [(.ref a4), (.ref a16), (.ref a27)] .null 1)
  obtain ⟨cl45, Ar45, q45, S45, N45, H45, G45⟩ := id f44
  have hin46 : ¬ ((3 : Int32) < 0 ∨ cl45.slots.size ≤ ((3 : Int32)).toNatClampNeg) := inb_of S45 ⟨by decide, by decide⟩
  obtain ⟨T46, h46, X46, e46, W46, st46⟩ := stR X41 hx hZ e41 Ar45 (j := (3 : Int32)) hin46 rfl (Sto.ofV Ar45 q45 O2 (Ins.self f43)) (g := (mkF m 28 (lc0 p1) [(.ref a38), (.int 3), (.ref b2), (.ref b2)])) rfl rfl (hb hby at_28)
  have N47 := Fr.snoc X46 N36 g13
  have f48 : Arv Z h46 b2 k2 (.object zs0) (14 : Int32) [(.ref a4), (.ref a16), (.ref a27), (.ref a38)] .null := Arv.set Ar45 q45 S45 N45 H45 G45 (by rfl) W46 3 rfl (Nat.le_of_ble_eq_true rfl)
  have f51 : Sta Z h46 zs0 zs6 zs1 (.ref a49) := (Sta.wr W46 (Sta.wr W35 (Sta.wr W24 (Sta.wr W12 (Sta.ext E2 F50)))))
  obtain ⟨T52, X52, e52, st52⟩ := getS2 X46 hx hZ hown (host := "") (Or.inl (ww hw 12 rfl)) Via.refl e46 f51 (g := (mkF m 31 (lc0 p1) [(.int 4), (.ref b2), (.ref b2)])) rfl (hb hby at_31)
  have f54 : Exa Z h46 a49 zs0 := (Exa.wr W46 (Exa.wr W35 (Exa.wr W24 (Exa.wr W12 (Exa.ext E2 F53)))))
  have f55 : Arv Z h46 b2 k2 (.object zs0) (14 : Int32) [(.ref a4), (.ref a16), (.ref a27), (.ref a38), .null] .null := f48.pad (pad_rep [(.ref a4), (.ref a16), (.ref a27), (.ref a38)] .null 1)
  obtain ⟨cl56, Ar56, q56, S56, N56, H56, G56⟩ := id f55
  have hin57 : ¬ ((4 : Int32) < 0 ∨ cl56.slots.size ≤ ((4 : Int32)).toNatClampNeg) := inb_of S56 ⟨by decide, by decide⟩
  obtain ⟨T57, h57, X57, e57, W57, st57⟩ := stR X52 hx hZ e52 Ar56 (j := (4 : Int32)) hin57 rfl (Sto.ofV Ar56 q56 O2 (Ins.self f54)) (g := (mkF m 34 (lc0 p1) [(.ref a49), (.int 4), (.ref b2), (.ref b2)])) rfl rfl (hb hby at_34)
  have N58 := Fr.snoc X57 N47 g13
  have f59 : Arv Z h57 b2 k2 (.object zs0) (14 : Int32) [(.ref a4), (.ref a16), (.ref a27), (.ref a38), (.ref a49)] .null := Arv.set Ar56 q56 S56 N56 H56 G56 (by rfl) W57 4 rfl (Nat.le_of_ble_eq_true rfl)
  have f62 : Sta Z h57 zs0 zs7 zs1 (.ref a60) := (Sta.wr W57 (Sta.wr W46 (Sta.wr W35 (Sta.wr W24 (Sta.wr W12 (Sta.ext E2 F61))))))
  obtain ⟨T63, X63, e63, st63⟩ := getS2 X57 hx hZ hown (host := "") (Or.inl (ww hw 14 rfl)) Via.refl e57 f62 (g := (mkF m 37 (lc0 p1) [(.int 5), (.ref b2), (.ref b2)])) rfl (hb hby at_37)
  have f65 : Exa Z h57 a60 zs0 := (Exa.wr W57 (Exa.wr W46 (Exa.wr W35 (Exa.wr W24 (Exa.wr W12 (Exa.ext E2 F64))))))
  have f66 : Arv Z h57 b2 k2 (.object zs0) (14 : Int32) [(.ref a4), (.ref a16), (.ref a27), (.ref a38), (.ref a49), .null] .null := f59.pad (pad_rep [(.ref a4), (.ref a16), (.ref a27), (.ref a38), (.ref a49)] .null 1)
  obtain ⟨cl67, Ar67, q67, S67, N67, H67, G67⟩ := id f66
  have hin68 : ¬ ((5 : Int32) < 0 ∨ cl67.slots.size ≤ ((5 : Int32)).toNatClampNeg) := inb_of S67 ⟨by decide, by decide⟩
  obtain ⟨T68, h68, X68, e68, W68, st68⟩ := stR X63 hx hZ e63 Ar67 (j := (5 : Int32)) hin68 rfl (Sto.ofV Ar67 q67 O2 (Ins.self f65)) (g := (mkF m 40 (lc0 p1) [(.ref a60), (.int 5), (.ref b2), (.ref b2)])) rfl rfl (hb hby at_40)
  have N69 := Fr.snoc X68 N58 g13
  have f70 : Arv Z h68 b2 k2 (.object zs0) (14 : Int32) [(.ref a4), (.ref a16), (.ref a27), (.ref a38), (.ref a49), (.ref a60)] .null := Arv.set Ar67 q67 S67 N67 H67 G67 (by rfl) W68 5 rfl (Nat.le_of_ble_eq_true rfl)
  have f73 : Sta Z h68 zs0 zs8 zs1 (.ref a71) := (Sta.wr W68 (Sta.wr W57 (Sta.wr W46 (Sta.wr W35 (Sta.wr W24 (Sta.wr W12 (Sta.ext E2 F72)))))))
  obtain ⟨T74, X74, e74, st74⟩ := getS2 X68 hx hZ hown (host := "") (Or.inl (ww hw 16 rfl)) Via.refl e68 f73 (g := (mkF m 44 (lc0 p1) [(.int 6), (.ref b2), (.ref b2)])) rfl (hb hby at_44)
  have f76 : Exa Z h68 a71 zs0 := (Exa.wr W68 (Exa.wr W57 (Exa.wr W46 (Exa.wr W35 (Exa.wr W24 (Exa.wr W12 (Exa.ext E2 F75)))))))
  have f77 : Arv Z h68 b2 k2 (.object zs0) (14 : Int32) [(.ref a4), (.ref a16), (.ref a27), (.ref a38), (.ref a49), (.ref a60), .null] .null := f70.pad (pad_rep [(.ref a4), (.ref a16), (.ref a27), (.ref a38), (.ref a49), (.ref a60)] .null 1)
  obtain ⟨cl78, Ar78, q78, S78, N78, H78, G78⟩ := id f77
  have hin79 : ¬ ((6 : Int32) < 0 ∨ cl78.slots.size ≤ ((6 : Int32)).toNatClampNeg) := inb_of S78 ⟨by decide, by decide⟩
  obtain ⟨T79, h79, X79, e79, W79, st79⟩ := stR X74 hx hZ e74 Ar78 (j := (6 : Int32)) hin79 rfl (Sto.ofV Ar78 q78 O2 (Ins.self f76)) (g := (mkF m 47 (lc0 p1) [(.ref a71), (.int 6), (.ref b2), (.ref b2)])) rfl rfl (hb hby at_47)
  have N80 := Fr.snoc X79 N69 g13
  have f81 : Arv Z h79 b2 k2 (.object zs0) (14 : Int32) [(.ref a4), (.ref a16), (.ref a27), (.ref a38), (.ref a49), (.ref a60), (.ref a71)] .null := Arv.set Ar78 q78 S78 N78 H78 G78 (by rfl) W79 6 rfl (Nat.le_of_ble_eq_true rfl)
  have f84 : Sta Z h79 zs0 zs9 zs1 (.ref a82) := (Sta.wr W79 (Sta.wr W68 (Sta.wr W57 (Sta.wr W46 (Sta.wr W35 (Sta.wr W24 (Sta.wr W12 (Sta.ext E2 F83))))))))
  obtain ⟨T85, X85, e85, st85⟩ := getS2 X79 hx hZ hown (host := "") (Or.inl (ww hw 18 rfl)) Via.refl e79 f84 (g := (mkF m 51 (lc0 p1) [(.int 7), (.ref b2), (.ref b2)])) rfl (hb hby at_51)
  have f87 : Exa Z h79 a82 zs0 := (Exa.wr W79 (Exa.wr W68 (Exa.wr W57 (Exa.wr W46 (Exa.wr W35 (Exa.wr W24 (Exa.wr W12 (Exa.ext E2 F86))))))))
  have f88 : Arv Z h79 b2 k2 (.object zs0) (14 : Int32) [(.ref a4), (.ref a16), (.ref a27), (.ref a38), (.ref a49), (.ref a60), (.ref a71), .null] .null := f81.pad (pad_rep [(.ref a4), (.ref a16), (.ref a27), (.ref a38), (.ref a49), (.ref a60), (.ref a71)] .null 1)
  obtain ⟨cl89, Ar89, q89, S89, N89, H89, G89⟩ := id f88
  have hin90 : ¬ ((7 : Int32) < 0 ∨ cl89.slots.size ≤ ((7 : Int32)).toNatClampNeg) := inb_of S89 ⟨by decide, by decide⟩
  obtain ⟨T90, h90, X90, e90, W90, st90⟩ := stR X85 hx hZ e85 Ar89 (j := (7 : Int32)) hin90 rfl (Sto.ofV Ar89 q89 O2 (Ins.self f87)) (g := (mkF m 54 (lc0 p1) [(.ref a82), (.int 7), (.ref b2), (.ref b2)])) rfl rfl (hb hby at_54)
  have N91 := Fr.snoc X90 N80 g13
  have f92 : Arv Z h90 b2 k2 (.object zs0) (14 : Int32) [(.ref a4), (.ref a16), (.ref a27), (.ref a38), (.ref a49), (.ref a60), (.ref a71), (.ref a82)] .null := Arv.set Ar89 q89 S89 N89 H89 G89 (by rfl) W90 7 rfl (Nat.le_of_ble_eq_true rfl)
  have f95 : Sta Z h90 zs0 zs10 zs1 (.ref a93) := (Sta.wr W90 (Sta.wr W79 (Sta.wr W68 (Sta.wr W57 (Sta.wr W46 (Sta.wr W35 (Sta.wr W24 (Sta.wr W12 (Sta.ext E2 F94)))))))))
  obtain ⟨T96, X96, e96, st96⟩ := getS2 X90 hx hZ hown (host := "") (Or.inl (ww hw 20 rfl)) Via.refl e90 f95 (g := (mkF m 58 (lc0 p1) [(.int 8), (.ref b2), (.ref b2)])) rfl (hb hby at_58)
  have f98 : Exa Z h90 a93 zs0 := (Exa.wr W90 (Exa.wr W79 (Exa.wr W68 (Exa.wr W57 (Exa.wr W46 (Exa.wr W35 (Exa.wr W24 (Exa.wr W12 (Exa.ext E2 F97)))))))))
  have f99 : Arv Z h90 b2 k2 (.object zs0) (14 : Int32) [(.ref a4), (.ref a16), (.ref a27), (.ref a38), (.ref a49), (.ref a60), (.ref a71), (.ref a82), .null] .null := f92.pad (pad_rep [(.ref a4), (.ref a16), (.ref a27), (.ref a38), (.ref a49), (.ref a60), (.ref a71), (.ref a82)] .null 1)
  obtain ⟨cl100, Ar100, q100, S100, N100, H100, G100⟩ := id f99
  have hin101 : ¬ ((8 : Int32) < 0 ∨ cl100.slots.size ≤ ((8 : Int32)).toNatClampNeg) := inb_of S100 ⟨by decide, by decide⟩
  obtain ⟨T101, h101, X101, e101, W101, st101⟩ := stR X96 hx hZ e96 Ar100 (j := (8 : Int32)) hin101 rfl (Sto.ofV Ar100 q100 O2 (Ins.self f98)) (g := (mkF m 61 (lc0 p1) [(.ref a93), (.int 8), (.ref b2), (.ref b2)])) rfl rfl (hb hby at_61)
  have N102 := Fr.snoc X101 N91 g13
  have f103 : Arv Z h101 b2 k2 (.object zs0) (14 : Int32) [(.ref a4), (.ref a16), (.ref a27), (.ref a38), (.ref a49), (.ref a60), (.ref a71), (.ref a82), (.ref a93)] .null := Arv.set Ar100 q100 S100 N100 H100 G100 (by rfl) W101 8 rfl (Nat.le_of_ble_eq_true rfl)
  have f106 : Sta Z h101 zs0 "INVALID_JSON" zs1 (.ref a104) := (Sta.wr W101 (Sta.wr W90 (Sta.wr W79 (Sta.wr W68 (Sta.wr W57 (Sta.wr W46 (Sta.wr W35 (Sta.wr W24 (Sta.wr W12 (Sta.ext E2 F105))))))))))
  obtain ⟨T107, X107, e107, st107⟩ := getS2 X101 hx hZ hown (host := "") (Or.inl (ww hw 22 rfl)) Via.refl e101 f106 (g := (mkF m 65 (lc0 p1) [(.int 9), (.ref b2), (.ref b2)])) rfl (hb hby at_65)
  have f109 : Exa Z h101 a104 zs0 := (Exa.wr W101 (Exa.wr W90 (Exa.wr W79 (Exa.wr W68 (Exa.wr W57 (Exa.wr W46 (Exa.wr W35 (Exa.wr W24 (Exa.wr W12 (Exa.ext E2 F108))))))))))
  have f110 : Arv Z h101 b2 k2 (.object zs0) (14 : Int32) [(.ref a4), (.ref a16), (.ref a27), (.ref a38), (.ref a49), (.ref a60), (.ref a71), (.ref a82), (.ref a93), .null] .null := f103.pad (pad_rep [(.ref a4), (.ref a16), (.ref a27), (.ref a38), (.ref a49), (.ref a60), (.ref a71), (.ref a82), (.ref a93)] .null 1)
  obtain ⟨cl111, Ar111, q111, S111, N111, H111, G111⟩ := id f110
  have hin112 : ¬ ((9 : Int32) < 0 ∨ cl111.slots.size ≤ ((9 : Int32)).toNatClampNeg) := inb_of S111 ⟨by decide, by decide⟩
  obtain ⟨T112, h112, X112, e112, W112, st112⟩ := stR X107 hx hZ e107 Ar111 (j := (9 : Int32)) hin112 rfl (Sto.ofV Ar111 q111 O2 (Ins.self f109)) (g := (mkF m 68 (lc0 p1) [(.ref a104), (.int 9), (.ref b2), (.ref b2)])) rfl rfl (hb hby at_68)
  have N113 := Fr.snoc X112 N102 g13
  have f114 : Arv Z h112 b2 k2 (.object zs0) (14 : Int32) [(.ref a4), (.ref a16), (.ref a27), (.ref a38), (.ref a49), (.ref a60), (.ref a71), (.ref a82), (.ref a93), (.ref a104)] .null := Arv.set Ar111 q111 S111 N111 H111 G111 (by rfl) W112 9 rfl (Nat.le_of_ble_eq_true rfl)
  have f117 : Sta Z h112 zs0 "INVALID_TEXT" zs1 (.ref a115) := (Sta.wr W112 (Sta.wr W101 (Sta.wr W90 (Sta.wr W79 (Sta.wr W68 (Sta.wr W57 (Sta.wr W46 (Sta.wr W35 (Sta.wr W24 (Sta.wr W12 (Sta.ext E2 F116)))))))))))
  obtain ⟨T118, X118, e118, st118⟩ := getS2 X112 hx hZ hown (host := "") (Or.inl (ww hw 24 rfl)) Via.refl e112 f117 (g := (mkF m 72 (lc0 p1) [(.int 10), (.ref b2), (.ref b2)])) rfl (hb hby at_72)
  have f120 : Exa Z h112 a115 zs0 := (Exa.wr W112 (Exa.wr W101 (Exa.wr W90 (Exa.wr W79 (Exa.wr W68 (Exa.wr W57 (Exa.wr W46 (Exa.wr W35 (Exa.wr W24 (Exa.wr W12 (Exa.ext E2 F119)))))))))))
  have f121 : Arv Z h112 b2 k2 (.object zs0) (14 : Int32) [(.ref a4), (.ref a16), (.ref a27), (.ref a38), (.ref a49), (.ref a60), (.ref a71), (.ref a82), (.ref a93), (.ref a104), .null] .null := f114.pad (pad_rep [(.ref a4), (.ref a16), (.ref a27), (.ref a38), (.ref a49), (.ref a60), (.ref a71), (.ref a82), (.ref a93), (.ref a104)] .null 1)
  obtain ⟨cl122, Ar122, q122, S122, N122, H122, G122⟩ := id f121
  have hin123 : ¬ ((10 : Int32) < 0 ∨ cl122.slots.size ≤ ((10 : Int32)).toNatClampNeg) := inb_of S122 ⟨by decide, by decide⟩
  obtain ⟨T123, h123, X123, e123, W123, st123⟩ := stR X118 hx hZ e118 Ar122 (j := (10 : Int32)) hin123 rfl (Sto.ofV Ar122 q122 O2 (Ins.self f120)) (g := (mkF m 75 (lc0 p1) [(.ref a115), (.int 10), (.ref b2), (.ref b2)])) rfl rfl (hb hby at_75)
  have N124 := Fr.snoc X123 N113 g13
  have f125 : Arv Z h123 b2 k2 (.object zs0) (14 : Int32) [(.ref a4), (.ref a16), (.ref a27), (.ref a38), (.ref a49), (.ref a60), (.ref a71), (.ref a82), (.ref a93), (.ref a104), (.ref a115)] .null := Arv.set Ar122 q122 S122 N122 H122 G122 (by rfl) W123 10 rfl (Nat.le_of_ble_eq_true rfl)
  have f128 : Sta Z h123 zs0 zs11 zs1 (.ref a126) := (Sta.wr W123 (Sta.wr W112 (Sta.wr W101 (Sta.wr W90 (Sta.wr W79 (Sta.wr W68 (Sta.wr W57 (Sta.wr W46 (Sta.wr W35 (Sta.wr W24 (Sta.wr W12 (Sta.ext E2 F127))))))))))))
  obtain ⟨T129, X129, e129, st129⟩ := getS2 X123 hx hZ hown (host := "") (Or.inl (ww hw 26 rfl)) Via.refl e123 f128 (g := (mkF m 79 (lc0 p1) [(.int 11), (.ref b2), (.ref b2)])) rfl (hb hby at_79)
  have f131 : Exa Z h123 a126 zs0 := (Exa.wr W123 (Exa.wr W112 (Exa.wr W101 (Exa.wr W90 (Exa.wr W79 (Exa.wr W68 (Exa.wr W57 (Exa.wr W46 (Exa.wr W35 (Exa.wr W24 (Exa.wr W12 (Exa.ext E2 F130))))))))))))
  have f132 : Arv Z h123 b2 k2 (.object zs0) (14 : Int32) [(.ref a4), (.ref a16), (.ref a27), (.ref a38), (.ref a49), (.ref a60), (.ref a71), (.ref a82), (.ref a93), (.ref a104), (.ref a115), .null] .null := f125.pad (pad_rep [(.ref a4), (.ref a16), (.ref a27), (.ref a38), (.ref a49), (.ref a60), (.ref a71), (.ref a82), (.ref a93), (.ref a104), (.ref a115)] .null 1)
  obtain ⟨cl133, Ar133, q133, S133, N133, H133, G133⟩ := id f132
  have hin134 : ¬ ((11 : Int32) < 0 ∨ cl133.slots.size ≤ ((11 : Int32)).toNatClampNeg) := inb_of S133 ⟨by decide, by decide⟩
  obtain ⟨T134, h134, X134, e134, W134, st134⟩ := stR X129 hx hZ e129 Ar133 (j := (11 : Int32)) hin134 rfl (Sto.ofV Ar133 q133 O2 (Ins.self f131)) (g := (mkF m 82 (lc0 p1) [(.ref a126), (.int 11), (.ref b2), (.ref b2)])) rfl rfl (hb hby at_82)
  have N135 := Fr.snoc X134 N124 g13
  have f136 : Arv Z h134 b2 k2 (.object zs0) (14 : Int32) [(.ref a4), (.ref a16), (.ref a27), (.ref a38), (.ref a49), (.ref a60), (.ref a71), (.ref a82), (.ref a93), (.ref a104), (.ref a115), (.ref a126)] .null := Arv.set Ar133 q133 S133 N133 H133 G133 (by rfl) W134 11 rfl (Nat.le_of_ble_eq_true rfl)
  have f139 : Sta Z h134 zs0 zs12 zs1 (.ref a137) := (Sta.wr W134 (Sta.wr W123 (Sta.wr W112 (Sta.wr W101 (Sta.wr W90 (Sta.wr W79 (Sta.wr W68 (Sta.wr W57 (Sta.wr W46 (Sta.wr W35 (Sta.wr W24 (Sta.wr W12 (Sta.ext E2 F138)))))))))))))
  obtain ⟨T140, X140, e140, st140⟩ := getS2 X134 hx hZ hown (host := "") (Or.inl (ww hw 28 rfl)) Via.refl e134 f139 (g := (mkF m 86 (lc0 p1) [(.int 12), (.ref b2), (.ref b2)])) rfl (hb hby at_86)
  have f142 : Exa Z h134 a137 zs0 := (Exa.wr W134 (Exa.wr W123 (Exa.wr W112 (Exa.wr W101 (Exa.wr W90 (Exa.wr W79 (Exa.wr W68 (Exa.wr W57 (Exa.wr W46 (Exa.wr W35 (Exa.wr W24 (Exa.wr W12 (Exa.ext E2 F141)))))))))))))
  have f143 : Arv Z h134 b2 k2 (.object zs0) (14 : Int32) [(.ref a4), (.ref a16), (.ref a27), (.ref a38), (.ref a49), (.ref a60), (.ref a71), (.ref a82), (.ref a93), (.ref a104), (.ref a115), (.ref a126), .null] .null := f136.pad (pad_rep [(.ref a4), (.ref a16), (.ref a27), (.ref a38), (.ref a49), (.ref a60), (.ref a71), (.ref a82), (.ref a93), (.ref a104), (.ref a115), (.ref a126)] .null 1)
  obtain ⟨cl144, Ar144, q144, S144, N144, H144, G144⟩ := id f143
  have hin145 : ¬ ((12 : Int32) < 0 ∨ cl144.slots.size ≤ ((12 : Int32)).toNatClampNeg) := inb_of S144 ⟨by decide, by decide⟩
  obtain ⟨T145, h145, X145, e145, W145, st145⟩ := stR X140 hx hZ e140 Ar144 (j := (12 : Int32)) hin145 rfl (Sto.ofV Ar144 q144 O2 (Ins.self f142)) (g := (mkF m 89 (lc0 p1) [(.ref a137), (.int 12), (.ref b2), (.ref b2)])) rfl rfl (hb hby at_89)
  have N146 := Fr.snoc X145 N135 g13
  have f147 : Arv Z h145 b2 k2 (.object zs0) (14 : Int32) [(.ref a4), (.ref a16), (.ref a27), (.ref a38), (.ref a49), (.ref a60), (.ref a71), (.ref a82), (.ref a93), (.ref a104), (.ref a115), (.ref a126), (.ref a137)] .null := Arv.set Ar144 q144 S144 N144 H144 G144 (by rfl) W145 12 rfl (Nat.le_of_ble_eq_true rfl)
  have f150 : Sta Z h145 zs0 "UNKNOWN_ITEM" zs1 (.ref a148) := (Sta.wr W145 (Sta.wr W134 (Sta.wr W123 (Sta.wr W112 (Sta.wr W101 (Sta.wr W90 (Sta.wr W79 (Sta.wr W68 (Sta.wr W57 (Sta.wr W46 (Sta.wr W35 (Sta.wr W24 (Sta.wr W12 (Sta.ext E2 F149))))))))))))))
  obtain ⟨T151, X151, e151, st151⟩ := getS2 X145 hx hZ hown (host := "") (Or.inl (ww hw 30 rfl)) Via.refl e145 f150 (g := (mkF m 93 (lc0 p1) [(.int 13), (.ref b2), (.ref b2)])) rfl (hb hby at_93)
  have f153 : Exa Z h145 a148 zs0 := (Exa.wr W145 (Exa.wr W134 (Exa.wr W123 (Exa.wr W112 (Exa.wr W101 (Exa.wr W90 (Exa.wr W79 (Exa.wr W68 (Exa.wr W57 (Exa.wr W46 (Exa.wr W35 (Exa.wr W24 (Exa.wr W12 (Exa.ext E2 F152))))))))))))))
  have f154 : Arv Z h145 b2 k2 (.object zs0) (14 : Int32) [(.ref a4), (.ref a16), (.ref a27), (.ref a38), (.ref a49), (.ref a60), (.ref a71), (.ref a82), (.ref a93), (.ref a104), (.ref a115), (.ref a126), (.ref a137), .null] .null := f147.pad (pad_rep [(.ref a4), (.ref a16), (.ref a27), (.ref a38), (.ref a49), (.ref a60), (.ref a71), (.ref a82), (.ref a93), (.ref a104), (.ref a115), (.ref a126), (.ref a137)] .null 1)
  obtain ⟨cl155, Ar155, q155, S155, N155, H155, G155⟩ := id f154
  have hin156 : ¬ ((13 : Int32) < 0 ∨ cl155.slots.size ≤ ((13 : Int32)).toNatClampNeg) := inb_of S155 ⟨by decide, by decide⟩
  obtain ⟨T156, h156, X156, e156, W156, st156⟩ := stR X151 hx hZ e151 Ar155 (j := (13 : Int32)) hin156 rfl (Sto.ofV Ar155 q155 O2 (Ins.self f153)) (g := (mkF m 96 (lc0 p1) [(.ref a148), (.int 13), (.ref b2), (.ref b2)])) rfl rfl (hb hby at_96)
  have N157 := Fr.snoc X156 N146 g13
  have f158 : Arv Z h156 b2 k2 (.object zs0) (14 : Int32) [(.ref a4), (.ref a16), (.ref a27), (.ref a38), (.ref a49), (.ref a60), (.ref a71), (.ref a82), (.ref a93), (.ref a104), (.ref a115), (.ref a126), (.ref a137), (.ref a148)] .null := Arv.set Ar155 q155 S155 N155 H155 G155 (by rfl) W156 13 rfl (Nat.le_of_ble_eq_true rfl)
  refine own_go (U' := T156.setTop (mkF m 105 (lc1 p1 b2) [(.int ((p1 &&& (2147483647 : Int32)) % (14 : Int32)))])) (fun t k => obipush X0 hx hby at_0 (st2 _ (odup X2 hx hby at_5 rfl (oiconst X2 hx hby at_6 (st7 _ (st12 _ (odup X12 hx hby at_11 rfl (oiconst X12 hx hby at_12 (st19 _ (st24 _ (odup X24 hx hby at_17 rfl (oiconst X24 hx hby at_18 (st30 _ (st35 _ (odup X35 hx hby at_23 rfl (oiconst X35 hx hby at_24 (st41 _ (st46 _ (odup X46 hx hby at_29 rfl (oiconst X46 hx hby at_30 (st52 _ (st57 _ (odup X57 hx hby at_35 rfl (oiconst X57 hx hby at_36 (st63 _ (st68 _ (odup X68 hx hby at_41 rfl (obipush X68 hx hby at_42 (st74 _ (st79 _ (odup X79 hx hby at_48 rfl (obipush X79 hx hby at_49 (st85 _ (st90 _ (odup X90 hx hby at_55 rfl (obipush X90 hx hby at_56 (st96 _ (st101 _ (odup X101 hx hby at_62 rfl (obipush X101 hx hby at_63 (st107 _ (st112 _ (odup X112 hx hby at_69 rfl (obipush X112 hx hby at_70 (st118 _ (st123 _ (odup X123 hx hby at_76 rfl (obipush X123 hx hby at_77 (st129 _ (st134 _ (odup X134 hx hby at_83 rfl (obipush X134 hx hby at_84 (st140 _ (st145 _ (odup X145 hx hby at_90 rfl (obipush X145 hx hby at_91 (st151 _ (st156 _ (oastoreN X156 hx hby at_97 (lc1 p1 b2) rfl rfl (oiloadN X156 hx hby at_98 rfl (X156.ldcInt hx hown (mvT hZ (ww hw 32 rfl)) (g := (mkF m 99 (lc1 p1 b2) [(.int p1)])) rfl (hb hby at_99) _ (oiand X156 hx hby at_101 (obipush X156 hx hby at_102 (oirem X156 hx hby at_104 (by decide) k)))))))))))))))))))))))))))))))))))))))))))))))))))))))))))))))) ?_
  rw [hv159]
  obtain ⟨cl160, Ar160, q160, S160, N160, H160, G160⟩ := id f158
  have hin161 : ¬ ((4 : Int32) < 0 ∨ cl160.slots.size ≤ ((4 : Int32)).toNatClampNeg) := inb_of S160 ⟨by decide, by decide⟩
  have hat161 : cl160.slots[((4 : Int32)).toNatClampNeg]? = some (.ref a49) := Has.at H160 hin161 rfl
  refine own_go (U' := T156.setTop (mkF m 113 (lc3 p1 b2 4 a49) [(.int 9), (.int 4)])) (fun t k => oistoreN X156 hx hby at_105 (lc2 p1 b2 4) rfl (oaloadN X156 hx hby at_106 rfl rfl (oiloadN X156 hx hby at_107 rfl (X156.aaload hx (j := (4 : Int32)) (v := (.ref a49)) (by rw [e156]; exact Ar160.1) (State.isArrayOf_alike hZ.alike Ar160.2.1) rfl Ar160.2.2 hin161 hat161 (g := (mkF m 108 (lc2 p1 b2 4) [(.int 4), (.ref b2)])) rfl rfl (hb hby at_108) _ (oastoreN X156 hx hby at_109 (lc3 p1 b2 4 a49) rfl rfl (oiloadN X156 hx hby at_110 rfl (obipush X156 hx hby at_111 k))))))) ?_
  refine own_go (U' := T156.setTop (mkF m 119 (lc3 p1 b2 4 a49) [(.int 10), (.int 4)])) (fun t k => oicN X156 hx hby at_113 (by decide) (oiloadN X156 hx hby at_116 rfl (obipush X156 hx hby at_117 k))) ?_
  have f163 : Exa Z h156 a49 zs0 := (Exa.wr W156 (Exa.wr W145 (Exa.wr W134 (Exa.wr W123 (Exa.wr W112 (Exa.wr W101 (Exa.wr W90 (Exa.wr W79 (Exa.wr W68 (Exa.wr W57 f54))))))))))
  have f164 : Sta Z h156 zs0 "INVALID_JSON" zs1 (.ref a104) := (Sta.wr W156 (Sta.wr W145 (Sta.wr W134 (Sta.wr W123 (Sta.wr W112 f106)))))
  have f166 : Sta Z h156 zs0 "INVALID_TEXT" zs1 (.ref a115) := (Sta.wr W156 (Sta.wr W145 (Sta.wr W134 (Sta.wr W123 f117))))
  have Z_1 : n0 ≤ h2.size := Nat.le_trans Z0 E2.1
  have Z_2 : n0 ≤ h12.size := Nat.le_trans Z_1 (Keep.of_wr W12).1
  have Z_3 : n0 ≤ h24.size := Nat.le_trans Z_2 (Keep.of_wr W24).1
  have Z_4 : n0 ≤ h35.size := Nat.le_trans Z_3 (Keep.of_wr W35).1
  have Z_5 : n0 ≤ h46.size := Nat.le_trans Z_4 (Keep.of_wr W46).1
  have Z_6 : n0 ≤ h57.size := Nat.le_trans Z_5 (Keep.of_wr W57).1
  have Z_7 : n0 ≤ h68.size := Nat.le_trans Z_6 (Keep.of_wr W68).1
  have Z_8 : n0 ≤ h79.size := Nat.le_trans Z_7 (Keep.of_wr W79).1
  have Z_9 : n0 ≤ h90.size := Nat.le_trans Z_8 (Keep.of_wr W90).1
  have Z_10 : n0 ≤ h101.size := Nat.le_trans Z_9 (Keep.of_wr W101).1
  have Z_11 : n0 ≤ h112.size := Nat.le_trans Z_10 (Keep.of_wr W112).1
  have Z_12 : n0 ≤ h123.size := Nat.le_trans Z_11 (Keep.of_wr W123).1
  have Z_13 : n0 ≤ h134.size := Nat.le_trans Z_12 (Keep.of_wr W134).1
  have Z_14 : n0 ≤ h145.size := Nat.le_trans Z_13 (Keep.of_wr W145).1
  have Z_15 : n0 ≤ h156.size := Nat.le_trans Z_14 (Keep.of_wr W156).1
  obtain ⟨_, T162, L162, X162, hQ162, st162⟩ := ocallV X156 hx hZ zm0 zm0 hown (ww hw 33 rfl) (ww hw 34 rfl) (notFace_of_selects (args := #[]) (mvT hZ (ww hw 36 rfl))) (ww hw 36 rfl) (ww hw 35 rfl) (by decide) (ww hw 37 rfl) (ww hw 3 rfl) e156 f163 (rm1_0 l Z a0 hw [] a49 a104 a115 h156 n0 Z_15 f164 ha165 f166 ha167) (st := [(.ref a49)]) rfl 0 rfl (by decide) (pc := 130) (Ls := (lc4 p1 b2 4 a49 0)) hml rfl (lenOf pd_0 rfl) at_130 hby
  obtain ⟨rfl, N162q, e162⟩ := hQ162
  have N168 := Fr.app N157 N162q
  refine own_go (U' := T162.setTop (mkF m 135 (lc4 p1 b2 4 a49 0) [(.int 0), (.int 0)])) (fun t k => oicY (pc := 119) X156 hx hby at_119 126 (by decide) (by decide) (oiconst X156 hx hby at_126 (oistore X156 hx hby at_127 (lc4 p1 b2 4 a49 0) rfl (oaloadN X156 hx hby at_129 rfl rfl (st162 _ (oiload X162 hx hby at_133 rfl k)))))) ?_
  refine own_go (U' := T162.setTop (mkF m 143 (lc4 p1 b2 4 a49 0) [(.int 1)])) (fun t k => oicN X162 hx hby at_135 (by decide) (oiconst X162 hx hby at_138 (ogoto (pc := 139) X162 hx hby at_139 143 (by decide) k))) ?_
  obtain ⟨fs, hr, hrun, hended, hW, hsame⟩ := X162.leave (v := some (.int 1)) (fun h => by rw [Bd.returns] at h; cases h)
  refine own_out ⟨_, _, ?_, hrun, hended, _, _, rfl, ?_, ⟨_, rfl⟩, hW, hsame.mono (by decide) (by decide)⟩
  · exact retN X162 hx (t := .boolean) Bd.returns (by simp) (hb hby at_143) hr
  · exact ⟨rfl, N168⟩
set_option maxRecDepth 65536 in
set_option maxHeartbeats 40000000 in
theorem rm0_6 (l : Launch) (Z : State) (a0 : Array Value) (hw : ∀ d ∈ tables_1, d.before a0 Z = true) (ws : List Jvm.Cond) (p1 : Int32) (a4 : Addr) (a16 : Addr) (a27 : Addr) (a38 : Addr) (a49 : Addr) (a60 : Addr) (a71 : Addr) (a82 : Addr) (a93 : Addr) (a104 : Addr) (a115 : Addr) (a126 : Addr) (a137 : Addr) (a148 : Addr) (h0 : Heap) (n0 : Nat) (Z0 : n0 ≤ h0.size) (F5 : Sta Z h0 zs0 zs2 zs1 (.ref a4)) (F8 : Exa Z h0 a4 zs0) (F17 : Sta Z h0 zs0 zs3 zs1 (.ref a16)) (F20 : Exa Z h0 a16 zs0) (F28 : Sta Z h0 zs0 zs4 zs1 (.ref a27)) (F31 : Exa Z h0 a27 zs0) (F39 : Sta Z h0 zs0 zs5 zs1 (.ref a38)) (F42 : Exa Z h0 a38 zs0) (F50 : Sta Z h0 zs0 zs6 zs1 (.ref a49)) (F53 : Exa Z h0 a49 zs0) (F61 : Sta Z h0 zs0 zs7 zs1 (.ref a60)) (F64 : Exa Z h0 a60 zs0) (F72 : Sta Z h0 zs0 zs8 zs1 (.ref a71)) (F75 : Exa Z h0 a71 zs0) (F83 : Sta Z h0 zs0 zs9 zs1 (.ref a82)) (F86 : Exa Z h0 a82 zs0) (F94 : Sta Z h0 zs0 zs10 zs1 (.ref a93)) (F97 : Exa Z h0 a93 zs0) (F105 : Sta Z h0 zs0 "INVALID_JSON" zs1 (.ref a104)) (F108 : Exa Z h0 a104 zs0) (F116 : Sta Z h0 zs0 "INVALID_TEXT" zs1 (.ref a115)) (F119 : Exa Z h0 a115 zs0) (F127 : Sta Z h0 zs0 zs11 zs1 (.ref a126)) (F130 : Exa Z h0 a126 zs0) (F138 : Sta Z h0 zs0 zs12 zs1 (.ref a137)) (F141 : Exa Z h0 a137 zs0) (F149 : Sta Z h0 zs0 "UNKNOWN_ITEM" zs1 (.ref a148)) (F152 : Exa Z h0 a148 zs0) (hv159 : ((p1 &&& (2147483647 : Int32)) % (14 : Int32)) = (5 : Int32)) (ha165 : a60 ≠ a104) (ha167 : a60 ≠ a115) :
    MetFree l x (head1 (Jvm.Cond.code x code maxLocals ret :: ws) room_1) (fun a U => a = #[(.int p1)] ∧ Z.Warmed39 U.vm ∧ U.heap = h0) (fun _ _ _ _ _ => True) (fun _ U o U' => ∃ v L, o = .returned v ∧ QLaw n0 v U'.heap L ∧ FrameEnd U o U' L room_1.cells room_1.slots) := by
  refine MetFree.of_bodySF (plainFor_of_name pn_com_example_strict_ledger_strictledger_RefusalCodeIsAboutTextPinLaw) hisR ?_
  intro p e s m args below meth c s₁ Bd hml0 hP hK
  obtain ⟨rfl, hZ, hh⟩ := hP
  have hx := Bd.exec
  have hby := Bd.bytes
  have hml : c.maxLocals = 5 := hml0
  have hown : s.vm.findClass zs13 = some m.cls := findClass_of_methodNamed Bd.named
  have hnm := (name_of_methodNamed Bd.named Bd.method).1
  have X0 : Stand p l e room_1 s m #[(.int p1)] below meth c s₁ [] 0 0 := Stand.of_body Bd
  have e0 : s₁.heap = h0 := by rw [← hh, Bd.state]; rfl
  have N0 := Fr.nil n0
  refine own_pre (g' := mkF m 0 (lc0 p1) []) (ef_1 m p1) ?_
  obtain ⟨T2, h2, k2, X2, e2, E2, A2, B2, O2, st2⟩ := newRE X0 hx hZ hown (ww hw 0 rfl) (ww hw 1 rfl) e0 (g := (mkF m 2 (lc0 p1) [(.int 14)])) rfl (hb hby at_2) rfl (by decide) (cap := 14) (by decide) (by decide) (by decide) (by decide) (ad := zs14) (by decide)
  obtain ⟨b2, g2⟩ : ∃ z, z = h0.size := ⟨_, rfl⟩
  rw [← g2] at A2 B2 st2
  have f3 : Arv Z h2 b2 k2 (.object zs0) (14 : Int32) [] .null := Arv.new A2 (by decide)
  have f6 : Sta Z h2 zs0 zs2 zs1 (.ref a4) := (Sta.ext E2 F5)
  obtain ⟨T7, X7, e7, st7⟩ := getS2 X2 hx hZ hown (host := "") (Or.inl (ww hw 2 rfl)) Via.refl e2 f6 (g := (mkF m 7 (lc0 p1) [(.int 0), (.ref b2), (.ref b2)])) rfl (hb hby at_7)
  have f9 : Exa Z h2 a4 zs0 := (Exa.ext E2 F8)
  have f10 : Arv Z h2 b2 k2 (.object zs0) (14 : Int32) [.null] .null := f3.pad (pad_rep [] .null 1)
  obtain ⟨cl11, Ar11, q11, S11, N11, H11, G11⟩ := id f10
  have g13 : n0 ≤ b2 := Nat.le_trans Z0 (Nat.le_of_eq g2.symm)
  have hin12 : ¬ ((0 : Int32) < 0 ∨ cl11.slots.size ≤ ((0 : Int32)).toNatClampNeg) := inb_of S11 ⟨by decide, by decide⟩
  obtain ⟨T12, h12, X12, e12, W12, st12⟩ := stR X7 hx hZ e7 Ar11 (j := (0 : Int32)) hin12 rfl (Sto.ofV Ar11 q11 O2 (Ins.self f9)) (g := (mkF m 10 (lc0 p1) [(.ref a4), (.int 0), (.ref b2), (.ref b2)])) rfl rfl (hb hby at_10)
  have N14 := Fr.snoc X12 N0 g13
  have f15 : Arv Z h12 b2 k2 (.object zs0) (14 : Int32) [(.ref a4)] .null := Arv.set Ar11 q11 S11 N11 H11 G11 (by rfl) W12 0 rfl (Nat.le_of_ble_eq_true rfl)
  have f18 : Sta Z h12 zs0 zs3 zs1 (.ref a16) := (Sta.wr W12 (Sta.ext E2 F17))
  obtain ⟨T19, X19, e19, st19⟩ := getS2 X12 hx hZ hown (host := "") (Or.inl (ww hw 6 rfl)) Via.refl e12 f18 (g := (mkF m 13 (lc0 p1) [(.int 1), (.ref b2), (.ref b2)])) rfl (hb hby at_13)
  have f21 : Exa Z h12 a16 zs0 := (Exa.wr W12 (Exa.ext E2 F20))
  have f22 : Arv Z h12 b2 k2 (.object zs0) (14 : Int32) [(.ref a4), .null] .null := f15.pad (pad_rep [(.ref a4)] .null 1)
  obtain ⟨cl23, Ar23, q23, S23, N23, H23, G23⟩ := id f22
  have hin24 : ¬ ((1 : Int32) < 0 ∨ cl23.slots.size ≤ ((1 : Int32)).toNatClampNeg) := inb_of S23 ⟨by decide, by decide⟩
  obtain ⟨T24, h24, X24, e24, W24, st24⟩ := stR X19 hx hZ e19 Ar23 (j := (1 : Int32)) hin24 rfl (Sto.ofV Ar23 q23 O2 (Ins.self f21)) (g := (mkF m 16 (lc0 p1) [(.ref a16), (.int 1), (.ref b2), (.ref b2)])) rfl rfl (hb hby at_16)
  have N25 := Fr.snoc X24 N14 g13
  have f26 : Arv Z h24 b2 k2 (.object zs0) (14 : Int32) [(.ref a4), (.ref a16)] .null := Arv.set Ar23 q23 S23 N23 H23 G23 (by rfl) W24 1 rfl (Nat.le_of_ble_eq_true rfl)
  have f29 : Sta Z h24 zs0 zs4 zs1 (.ref a27) := (Sta.wr W24 (Sta.wr W12 (Sta.ext E2 F28)))
  obtain ⟨T30, X30, e30, st30⟩ := getS2 X24 hx hZ hown (host := "") (Or.inl (ww hw 8 rfl)) Via.refl e24 f29 (g := (mkF m 19 (lc0 p1) [(.int 2), (.ref b2), (.ref b2)])) rfl (hb hby at_19)
  have f32 : Exa Z h24 a27 zs0 := (Exa.wr W24 (Exa.wr W12 (Exa.ext E2 F31)))
  have f33 : Arv Z h24 b2 k2 (.object zs0) (14 : Int32) [(.ref a4), (.ref a16), .null] .null := f26.pad (pad_rep [(.ref a4), (.ref a16)] .null 1)
  obtain ⟨cl34, Ar34, q34, S34, N34, H34, G34⟩ := id f33
  have hin35 : ¬ ((2 : Int32) < 0 ∨ cl34.slots.size ≤ ((2 : Int32)).toNatClampNeg) := inb_of S34 ⟨by decide, by decide⟩
  obtain ⟨T35, h35, X35, e35, W35, st35⟩ := stR X30 hx hZ e30 Ar34 (j := (2 : Int32)) hin35 rfl (Sto.ofV Ar34 q34 O2 (Ins.self f32)) (g := (mkF m 22 (lc0 p1) [(.ref a27), (.int 2), (.ref b2), (.ref b2)])) rfl rfl (hb hby at_22)
  have N36 := Fr.snoc X35 N25 g13
  have f37 : Arv Z h35 b2 k2 (.object zs0) (14 : Int32) [(.ref a4), (.ref a16), (.ref a27)] .null := Arv.set Ar34 q34 S34 N34 H34 G34 (by rfl) W35 2 rfl (Nat.le_of_ble_eq_true rfl)
  have f40 : Sta Z h35 zs0 zs5 zs1 (.ref a38) := (Sta.wr W35 (Sta.wr W24 (Sta.wr W12 (Sta.ext E2 F39))))
  obtain ⟨T41, X41, e41, st41⟩ := getS2 X35 hx hZ hown (host := "") (Or.inl (ww hw 10 rfl)) Via.refl e35 f40 (g := (mkF m 25 (lc0 p1) [(.int 3), (.ref b2), (.ref b2)])) rfl (hb hby at_25)
  have f43 : Exa Z h35 a38 zs0 := (Exa.wr W35 (Exa.wr W24 (Exa.wr W12 (Exa.ext E2 F42))))
  have f44 : Arv Z h35 b2 k2 (.object zs0) (14 : Int32) [(.ref a4), (.ref a16), (.ref a27), .null] .null := f37.pad (pad_rep [(.ref a4), (.ref a16), (.ref a27)] .null 1)
  obtain ⟨cl45, Ar45, q45, S45, N45, H45, G45⟩ := id f44
  have hin46 : ¬ ((3 : Int32) < 0 ∨ cl45.slots.size ≤ ((3 : Int32)).toNatClampNeg) := inb_of S45 ⟨by decide, by decide⟩
  obtain ⟨T46, h46, X46, e46, W46, st46⟩ := stR X41 hx hZ e41 Ar45 (j := (3 : Int32)) hin46 rfl (Sto.ofV Ar45 q45 O2 (Ins.self f43)) (g := (mkF m 28 (lc0 p1) [(.ref a38), (.int 3), (.ref b2), (.ref b2)])) rfl rfl (hb hby at_28)
  have N47 := Fr.snoc X46 N36 g13
  have f48 : Arv Z h46 b2 k2 (.object zs0) (14 : Int32) [(.ref a4), (.ref a16), (.ref a27), (.ref a38)] .null := Arv.set Ar45 q45 S45 N45 H45 G45 (by rfl) W46 3 rfl (Nat.le_of_ble_eq_true rfl)
  have f51 : Sta Z h46 zs0 zs6 zs1 (.ref a49) := (Sta.wr W46 (Sta.wr W35 (Sta.wr W24 (Sta.wr W12 (Sta.ext E2 F50)))))
  obtain ⟨T52, X52, e52, st52⟩ := getS2 X46 hx hZ hown (host := "") (Or.inl (ww hw 12 rfl)) Via.refl e46 f51 (g := (mkF m 31 (lc0 p1) [(.int 4), (.ref b2), (.ref b2)])) rfl (hb hby at_31)
  have f54 : Exa Z h46 a49 zs0 := (Exa.wr W46 (Exa.wr W35 (Exa.wr W24 (Exa.wr W12 (Exa.ext E2 F53)))))
  have f55 : Arv Z h46 b2 k2 (.object zs0) (14 : Int32) [(.ref a4), (.ref a16), (.ref a27), (.ref a38), .null] .null := f48.pad (pad_rep [(.ref a4), (.ref a16), (.ref a27), (.ref a38)] .null 1)
  obtain ⟨cl56, Ar56, q56, S56, N56, H56, G56⟩ := id f55
  have hin57 : ¬ ((4 : Int32) < 0 ∨ cl56.slots.size ≤ ((4 : Int32)).toNatClampNeg) := inb_of S56 ⟨by decide, by decide⟩
  obtain ⟨T57, h57, X57, e57, W57, st57⟩ := stR X52 hx hZ e52 Ar56 (j := (4 : Int32)) hin57 rfl (Sto.ofV Ar56 q56 O2 (Ins.self f54)) (g := (mkF m 34 (lc0 p1) [(.ref a49), (.int 4), (.ref b2), (.ref b2)])) rfl rfl (hb hby at_34)
  have N58 := Fr.snoc X57 N47 g13
  have f59 : Arv Z h57 b2 k2 (.object zs0) (14 : Int32) [(.ref a4), (.ref a16), (.ref a27), (.ref a38), (.ref a49)] .null := Arv.set Ar56 q56 S56 N56 H56 G56 (by rfl) W57 4 rfl (Nat.le_of_ble_eq_true rfl)
  have f62 : Sta Z h57 zs0 zs7 zs1 (.ref a60) := (Sta.wr W57 (Sta.wr W46 (Sta.wr W35 (Sta.wr W24 (Sta.wr W12 (Sta.ext E2 F61))))))
  obtain ⟨T63, X63, e63, st63⟩ := getS2 X57 hx hZ hown (host := "") (Or.inl (ww hw 14 rfl)) Via.refl e57 f62 (g := (mkF m 37 (lc0 p1) [(.int 5), (.ref b2), (.ref b2)])) rfl (hb hby at_37)
  have f65 : Exa Z h57 a60 zs0 := (Exa.wr W57 (Exa.wr W46 (Exa.wr W35 (Exa.wr W24 (Exa.wr W12 (Exa.ext E2 F64))))))
  have f66 : Arv Z h57 b2 k2 (.object zs0) (14 : Int32) [(.ref a4), (.ref a16), (.ref a27), (.ref a38), (.ref a49), .null] .null := f59.pad (pad_rep [(.ref a4), (.ref a16), (.ref a27), (.ref a38), (.ref a49)] .null 1)
  obtain ⟨cl67, Ar67, q67, S67, N67, H67, G67⟩ := id f66
  have hin68 : ¬ ((5 : Int32) < 0 ∨ cl67.slots.size ≤ ((5 : Int32)).toNatClampNeg) := inb_of S67 ⟨by decide, by decide⟩
  obtain ⟨T68, h68, X68, e68, W68, st68⟩ := stR X63 hx hZ e63 Ar67 (j := (5 : Int32)) hin68 rfl (Sto.ofV Ar67 q67 O2 (Ins.self f65)) (g := (mkF m 40 (lc0 p1) [(.ref a60), (.int 5), (.ref b2), (.ref b2)])) rfl rfl (hb hby at_40)
  have N69 := Fr.snoc X68 N58 g13
  have f70 : Arv Z h68 b2 k2 (.object zs0) (14 : Int32) [(.ref a4), (.ref a16), (.ref a27), (.ref a38), (.ref a49), (.ref a60)] .null := Arv.set Ar67 q67 S67 N67 H67 G67 (by rfl) W68 5 rfl (Nat.le_of_ble_eq_true rfl)
  have f73 : Sta Z h68 zs0 zs8 zs1 (.ref a71) := (Sta.wr W68 (Sta.wr W57 (Sta.wr W46 (Sta.wr W35 (Sta.wr W24 (Sta.wr W12 (Sta.ext E2 F72)))))))
  obtain ⟨T74, X74, e74, st74⟩ := getS2 X68 hx hZ hown (host := "") (Or.inl (ww hw 16 rfl)) Via.refl e68 f73 (g := (mkF m 44 (lc0 p1) [(.int 6), (.ref b2), (.ref b2)])) rfl (hb hby at_44)
  have f76 : Exa Z h68 a71 zs0 := (Exa.wr W68 (Exa.wr W57 (Exa.wr W46 (Exa.wr W35 (Exa.wr W24 (Exa.wr W12 (Exa.ext E2 F75)))))))
  have f77 : Arv Z h68 b2 k2 (.object zs0) (14 : Int32) [(.ref a4), (.ref a16), (.ref a27), (.ref a38), (.ref a49), (.ref a60), .null] .null := f70.pad (pad_rep [(.ref a4), (.ref a16), (.ref a27), (.ref a38), (.ref a49), (.ref a60)] .null 1)
  obtain ⟨cl78, Ar78, q78, S78, N78, H78, G78⟩ := id f77
  have hin79 : ¬ ((6 : Int32) < 0 ∨ cl78.slots.size ≤ ((6 : Int32)).toNatClampNeg) := inb_of S78 ⟨by decide, by decide⟩
  obtain ⟨T79, h79, X79, e79, W79, st79⟩ := stR X74 hx hZ e74 Ar78 (j := (6 : Int32)) hin79 rfl (Sto.ofV Ar78 q78 O2 (Ins.self f76)) (g := (mkF m 47 (lc0 p1) [(.ref a71), (.int 6), (.ref b2), (.ref b2)])) rfl rfl (hb hby at_47)
  have N80 := Fr.snoc X79 N69 g13
  have f81 : Arv Z h79 b2 k2 (.object zs0) (14 : Int32) [(.ref a4), (.ref a16), (.ref a27), (.ref a38), (.ref a49), (.ref a60), (.ref a71)] .null := Arv.set Ar78 q78 S78 N78 H78 G78 (by rfl) W79 6 rfl (Nat.le_of_ble_eq_true rfl)
  have f84 : Sta Z h79 zs0 zs9 zs1 (.ref a82) := (Sta.wr W79 (Sta.wr W68 (Sta.wr W57 (Sta.wr W46 (Sta.wr W35 (Sta.wr W24 (Sta.wr W12 (Sta.ext E2 F83))))))))
  obtain ⟨T85, X85, e85, st85⟩ := getS2 X79 hx hZ hown (host := "") (Or.inl (ww hw 18 rfl)) Via.refl e79 f84 (g := (mkF m 51 (lc0 p1) [(.int 7), (.ref b2), (.ref b2)])) rfl (hb hby at_51)
  have f87 : Exa Z h79 a82 zs0 := (Exa.wr W79 (Exa.wr W68 (Exa.wr W57 (Exa.wr W46 (Exa.wr W35 (Exa.wr W24 (Exa.wr W12 (Exa.ext E2 F86))))))))
  have f88 : Arv Z h79 b2 k2 (.object zs0) (14 : Int32) [(.ref a4), (.ref a16), (.ref a27), (.ref a38), (.ref a49), (.ref a60), (.ref a71), .null] .null := f81.pad (pad_rep [(.ref a4), (.ref a16), (.ref a27), (.ref a38), (.ref a49), (.ref a60), (.ref a71)] .null 1)
  obtain ⟨cl89, Ar89, q89, S89, N89, H89, G89⟩ := id f88
  have hin90 : ¬ ((7 : Int32) < 0 ∨ cl89.slots.size ≤ ((7 : Int32)).toNatClampNeg) := inb_of S89 ⟨by decide, by decide⟩
  obtain ⟨T90, h90, X90, e90, W90, st90⟩ := stR X85 hx hZ e85 Ar89 (j := (7 : Int32)) hin90 rfl (Sto.ofV Ar89 q89 O2 (Ins.self f87)) (g := (mkF m 54 (lc0 p1) [(.ref a82), (.int 7), (.ref b2), (.ref b2)])) rfl rfl (hb hby at_54)
  have N91 := Fr.snoc X90 N80 g13
  have f92 : Arv Z h90 b2 k2 (.object zs0) (14 : Int32) [(.ref a4), (.ref a16), (.ref a27), (.ref a38), (.ref a49), (.ref a60), (.ref a71), (.ref a82)] .null := Arv.set Ar89 q89 S89 N89 H89 G89 (by rfl) W90 7 rfl (Nat.le_of_ble_eq_true rfl)
  have f95 : Sta Z h90 zs0 zs10 zs1 (.ref a93) := (Sta.wr W90 (Sta.wr W79 (Sta.wr W68 (Sta.wr W57 (Sta.wr W46 (Sta.wr W35 (Sta.wr W24 (Sta.wr W12 (Sta.ext E2 F94)))))))))
  obtain ⟨T96, X96, e96, st96⟩ := getS2 X90 hx hZ hown (host := "") (Or.inl (ww hw 20 rfl)) Via.refl e90 f95 (g := (mkF m 58 (lc0 p1) [(.int 8), (.ref b2), (.ref b2)])) rfl (hb hby at_58)
  have f98 : Exa Z h90 a93 zs0 := (Exa.wr W90 (Exa.wr W79 (Exa.wr W68 (Exa.wr W57 (Exa.wr W46 (Exa.wr W35 (Exa.wr W24 (Exa.wr W12 (Exa.ext E2 F97)))))))))
  have f99 : Arv Z h90 b2 k2 (.object zs0) (14 : Int32) [(.ref a4), (.ref a16), (.ref a27), (.ref a38), (.ref a49), (.ref a60), (.ref a71), (.ref a82), .null] .null := f92.pad (pad_rep [(.ref a4), (.ref a16), (.ref a27), (.ref a38), (.ref a49), (.ref a60), (.ref a71), (.ref a82)] .null 1)
  obtain ⟨cl100, Ar100, q100, S100, N100, H100, G100⟩ := id f99
  have hin101 : ¬ ((8 : Int32) < 0 ∨ cl100.slots.size ≤ ((8 : Int32)).toNatClampNeg) := inb_of S100 ⟨by decide, by decide⟩
  obtain ⟨T101, h101, X101, e101, W101, st101⟩ := stR X96 hx hZ e96 Ar100 (j := (8 : Int32)) hin101 rfl (Sto.ofV Ar100 q100 O2 (Ins.self f98)) (g := (mkF m 61 (lc0 p1) [(.ref a93), (.int 8), (.ref b2), (.ref b2)])) rfl rfl (hb hby at_61)
  have N102 := Fr.snoc X101 N91 g13
  have f103 : Arv Z h101 b2 k2 (.object zs0) (14 : Int32) [(.ref a4), (.ref a16), (.ref a27), (.ref a38), (.ref a49), (.ref a60), (.ref a71), (.ref a82), (.ref a93)] .null := Arv.set Ar100 q100 S100 N100 H100 G100 (by rfl) W101 8 rfl (Nat.le_of_ble_eq_true rfl)
  have f106 : Sta Z h101 zs0 "INVALID_JSON" zs1 (.ref a104) := (Sta.wr W101 (Sta.wr W90 (Sta.wr W79 (Sta.wr W68 (Sta.wr W57 (Sta.wr W46 (Sta.wr W35 (Sta.wr W24 (Sta.wr W12 (Sta.ext E2 F105))))))))))
  obtain ⟨T107, X107, e107, st107⟩ := getS2 X101 hx hZ hown (host := "") (Or.inl (ww hw 22 rfl)) Via.refl e101 f106 (g := (mkF m 65 (lc0 p1) [(.int 9), (.ref b2), (.ref b2)])) rfl (hb hby at_65)
  have f109 : Exa Z h101 a104 zs0 := (Exa.wr W101 (Exa.wr W90 (Exa.wr W79 (Exa.wr W68 (Exa.wr W57 (Exa.wr W46 (Exa.wr W35 (Exa.wr W24 (Exa.wr W12 (Exa.ext E2 F108))))))))))
  have f110 : Arv Z h101 b2 k2 (.object zs0) (14 : Int32) [(.ref a4), (.ref a16), (.ref a27), (.ref a38), (.ref a49), (.ref a60), (.ref a71), (.ref a82), (.ref a93), .null] .null := f103.pad (pad_rep [(.ref a4), (.ref a16), (.ref a27), (.ref a38), (.ref a49), (.ref a60), (.ref a71), (.ref a82), (.ref a93)] .null 1)
  obtain ⟨cl111, Ar111, q111, S111, N111, H111, G111⟩ := id f110
  have hin112 : ¬ ((9 : Int32) < 0 ∨ cl111.slots.size ≤ ((9 : Int32)).toNatClampNeg) := inb_of S111 ⟨by decide, by decide⟩
  obtain ⟨T112, h112, X112, e112, W112, st112⟩ := stR X107 hx hZ e107 Ar111 (j := (9 : Int32)) hin112 rfl (Sto.ofV Ar111 q111 O2 (Ins.self f109)) (g := (mkF m 68 (lc0 p1) [(.ref a104), (.int 9), (.ref b2), (.ref b2)])) rfl rfl (hb hby at_68)
  have N113 := Fr.snoc X112 N102 g13
  have f114 : Arv Z h112 b2 k2 (.object zs0) (14 : Int32) [(.ref a4), (.ref a16), (.ref a27), (.ref a38), (.ref a49), (.ref a60), (.ref a71), (.ref a82), (.ref a93), (.ref a104)] .null := Arv.set Ar111 q111 S111 N111 H111 G111 (by rfl) W112 9 rfl (Nat.le_of_ble_eq_true rfl)
  have f117 : Sta Z h112 zs0 "INVALID_TEXT" zs1 (.ref a115) := (Sta.wr W112 (Sta.wr W101 (Sta.wr W90 (Sta.wr W79 (Sta.wr W68 (Sta.wr W57 (Sta.wr W46 (Sta.wr W35 (Sta.wr W24 (Sta.wr W12 (Sta.ext E2 F116)))))))))))
  obtain ⟨T118, X118, e118, st118⟩ := getS2 X112 hx hZ hown (host := "") (Or.inl (ww hw 24 rfl)) Via.refl e112 f117 (g := (mkF m 72 (lc0 p1) [(.int 10), (.ref b2), (.ref b2)])) rfl (hb hby at_72)
  have f120 : Exa Z h112 a115 zs0 := (Exa.wr W112 (Exa.wr W101 (Exa.wr W90 (Exa.wr W79 (Exa.wr W68 (Exa.wr W57 (Exa.wr W46 (Exa.wr W35 (Exa.wr W24 (Exa.wr W12 (Exa.ext E2 F119)))))))))))
  have f121 : Arv Z h112 b2 k2 (.object zs0) (14 : Int32) [(.ref a4), (.ref a16), (.ref a27), (.ref a38), (.ref a49), (.ref a60), (.ref a71), (.ref a82), (.ref a93), (.ref a104), .null] .null := f114.pad (pad_rep [(.ref a4), (.ref a16), (.ref a27), (.ref a38), (.ref a49), (.ref a60), (.ref a71), (.ref a82), (.ref a93), (.ref a104)] .null 1)
  obtain ⟨cl122, Ar122, q122, S122, N122, H122, G122⟩ := id f121
  have hin123 : ¬ ((10 : Int32) < 0 ∨ cl122.slots.size ≤ ((10 : Int32)).toNatClampNeg) := inb_of S122 ⟨by decide, by decide⟩
  obtain ⟨T123, h123, X123, e123, W123, st123⟩ := stR X118 hx hZ e118 Ar122 (j := (10 : Int32)) hin123 rfl (Sto.ofV Ar122 q122 O2 (Ins.self f120)) (g := (mkF m 75 (lc0 p1) [(.ref a115), (.int 10), (.ref b2), (.ref b2)])) rfl rfl (hb hby at_75)
  have N124 := Fr.snoc X123 N113 g13
  have f125 : Arv Z h123 b2 k2 (.object zs0) (14 : Int32) [(.ref a4), (.ref a16), (.ref a27), (.ref a38), (.ref a49), (.ref a60), (.ref a71), (.ref a82), (.ref a93), (.ref a104), (.ref a115)] .null := Arv.set Ar122 q122 S122 N122 H122 G122 (by rfl) W123 10 rfl (Nat.le_of_ble_eq_true rfl)
  have f128 : Sta Z h123 zs0 zs11 zs1 (.ref a126) := (Sta.wr W123 (Sta.wr W112 (Sta.wr W101 (Sta.wr W90 (Sta.wr W79 (Sta.wr W68 (Sta.wr W57 (Sta.wr W46 (Sta.wr W35 (Sta.wr W24 (Sta.wr W12 (Sta.ext E2 F127))))))))))))
  obtain ⟨T129, X129, e129, st129⟩ := getS2 X123 hx hZ hown (host := "") (Or.inl (ww hw 26 rfl)) Via.refl e123 f128 (g := (mkF m 79 (lc0 p1) [(.int 11), (.ref b2), (.ref b2)])) rfl (hb hby at_79)
  have f131 : Exa Z h123 a126 zs0 := (Exa.wr W123 (Exa.wr W112 (Exa.wr W101 (Exa.wr W90 (Exa.wr W79 (Exa.wr W68 (Exa.wr W57 (Exa.wr W46 (Exa.wr W35 (Exa.wr W24 (Exa.wr W12 (Exa.ext E2 F130))))))))))))
  have f132 : Arv Z h123 b2 k2 (.object zs0) (14 : Int32) [(.ref a4), (.ref a16), (.ref a27), (.ref a38), (.ref a49), (.ref a60), (.ref a71), (.ref a82), (.ref a93), (.ref a104), (.ref a115), .null] .null := f125.pad (pad_rep [(.ref a4), (.ref a16), (.ref a27), (.ref a38), (.ref a49), (.ref a60), (.ref a71), (.ref a82), (.ref a93), (.ref a104), (.ref a115)] .null 1)
  obtain ⟨cl133, Ar133, q133, S133, N133, H133, G133⟩ := id f132
  have hin134 : ¬ ((11 : Int32) < 0 ∨ cl133.slots.size ≤ ((11 : Int32)).toNatClampNeg) := inb_of S133 ⟨by decide, by decide⟩
  obtain ⟨T134, h134, X134, e134, W134, st134⟩ := stR X129 hx hZ e129 Ar133 (j := (11 : Int32)) hin134 rfl (Sto.ofV Ar133 q133 O2 (Ins.self f131)) (g := (mkF m 82 (lc0 p1) [(.ref a126), (.int 11), (.ref b2), (.ref b2)])) rfl rfl (hb hby at_82)
  have N135 := Fr.snoc X134 N124 g13
  have f136 : Arv Z h134 b2 k2 (.object zs0) (14 : Int32) [(.ref a4), (.ref a16), (.ref a27), (.ref a38), (.ref a49), (.ref a60), (.ref a71), (.ref a82), (.ref a93), (.ref a104), (.ref a115), (.ref a126)] .null := Arv.set Ar133 q133 S133 N133 H133 G133 (by rfl) W134 11 rfl (Nat.le_of_ble_eq_true rfl)
  have f139 : Sta Z h134 zs0 zs12 zs1 (.ref a137) := (Sta.wr W134 (Sta.wr W123 (Sta.wr W112 (Sta.wr W101 (Sta.wr W90 (Sta.wr W79 (Sta.wr W68 (Sta.wr W57 (Sta.wr W46 (Sta.wr W35 (Sta.wr W24 (Sta.wr W12 (Sta.ext E2 F138)))))))))))))
  obtain ⟨T140, X140, e140, st140⟩ := getS2 X134 hx hZ hown (host := "") (Or.inl (ww hw 28 rfl)) Via.refl e134 f139 (g := (mkF m 86 (lc0 p1) [(.int 12), (.ref b2), (.ref b2)])) rfl (hb hby at_86)
  have f142 : Exa Z h134 a137 zs0 := (Exa.wr W134 (Exa.wr W123 (Exa.wr W112 (Exa.wr W101 (Exa.wr W90 (Exa.wr W79 (Exa.wr W68 (Exa.wr W57 (Exa.wr W46 (Exa.wr W35 (Exa.wr W24 (Exa.wr W12 (Exa.ext E2 F141)))))))))))))
  have f143 : Arv Z h134 b2 k2 (.object zs0) (14 : Int32) [(.ref a4), (.ref a16), (.ref a27), (.ref a38), (.ref a49), (.ref a60), (.ref a71), (.ref a82), (.ref a93), (.ref a104), (.ref a115), (.ref a126), .null] .null := f136.pad (pad_rep [(.ref a4), (.ref a16), (.ref a27), (.ref a38), (.ref a49), (.ref a60), (.ref a71), (.ref a82), (.ref a93), (.ref a104), (.ref a115), (.ref a126)] .null 1)
  obtain ⟨cl144, Ar144, q144, S144, N144, H144, G144⟩ := id f143
  have hin145 : ¬ ((12 : Int32) < 0 ∨ cl144.slots.size ≤ ((12 : Int32)).toNatClampNeg) := inb_of S144 ⟨by decide, by decide⟩
  obtain ⟨T145, h145, X145, e145, W145, st145⟩ := stR X140 hx hZ e140 Ar144 (j := (12 : Int32)) hin145 rfl (Sto.ofV Ar144 q144 O2 (Ins.self f142)) (g := (mkF m 89 (lc0 p1) [(.ref a137), (.int 12), (.ref b2), (.ref b2)])) rfl rfl (hb hby at_89)
  have N146 := Fr.snoc X145 N135 g13
  have f147 : Arv Z h145 b2 k2 (.object zs0) (14 : Int32) [(.ref a4), (.ref a16), (.ref a27), (.ref a38), (.ref a49), (.ref a60), (.ref a71), (.ref a82), (.ref a93), (.ref a104), (.ref a115), (.ref a126), (.ref a137)] .null := Arv.set Ar144 q144 S144 N144 H144 G144 (by rfl) W145 12 rfl (Nat.le_of_ble_eq_true rfl)
  have f150 : Sta Z h145 zs0 "UNKNOWN_ITEM" zs1 (.ref a148) := (Sta.wr W145 (Sta.wr W134 (Sta.wr W123 (Sta.wr W112 (Sta.wr W101 (Sta.wr W90 (Sta.wr W79 (Sta.wr W68 (Sta.wr W57 (Sta.wr W46 (Sta.wr W35 (Sta.wr W24 (Sta.wr W12 (Sta.ext E2 F149))))))))))))))
  obtain ⟨T151, X151, e151, st151⟩ := getS2 X145 hx hZ hown (host := "") (Or.inl (ww hw 30 rfl)) Via.refl e145 f150 (g := (mkF m 93 (lc0 p1) [(.int 13), (.ref b2), (.ref b2)])) rfl (hb hby at_93)
  have f153 : Exa Z h145 a148 zs0 := (Exa.wr W145 (Exa.wr W134 (Exa.wr W123 (Exa.wr W112 (Exa.wr W101 (Exa.wr W90 (Exa.wr W79 (Exa.wr W68 (Exa.wr W57 (Exa.wr W46 (Exa.wr W35 (Exa.wr W24 (Exa.wr W12 (Exa.ext E2 F152))))))))))))))
  have f154 : Arv Z h145 b2 k2 (.object zs0) (14 : Int32) [(.ref a4), (.ref a16), (.ref a27), (.ref a38), (.ref a49), (.ref a60), (.ref a71), (.ref a82), (.ref a93), (.ref a104), (.ref a115), (.ref a126), (.ref a137), .null] .null := f147.pad (pad_rep [(.ref a4), (.ref a16), (.ref a27), (.ref a38), (.ref a49), (.ref a60), (.ref a71), (.ref a82), (.ref a93), (.ref a104), (.ref a115), (.ref a126), (.ref a137)] .null 1)
  obtain ⟨cl155, Ar155, q155, S155, N155, H155, G155⟩ := id f154
  have hin156 : ¬ ((13 : Int32) < 0 ∨ cl155.slots.size ≤ ((13 : Int32)).toNatClampNeg) := inb_of S155 ⟨by decide, by decide⟩
  obtain ⟨T156, h156, X156, e156, W156, st156⟩ := stR X151 hx hZ e151 Ar155 (j := (13 : Int32)) hin156 rfl (Sto.ofV Ar155 q155 O2 (Ins.self f153)) (g := (mkF m 96 (lc0 p1) [(.ref a148), (.int 13), (.ref b2), (.ref b2)])) rfl rfl (hb hby at_96)
  have N157 := Fr.snoc X156 N146 g13
  have f158 : Arv Z h156 b2 k2 (.object zs0) (14 : Int32) [(.ref a4), (.ref a16), (.ref a27), (.ref a38), (.ref a49), (.ref a60), (.ref a71), (.ref a82), (.ref a93), (.ref a104), (.ref a115), (.ref a126), (.ref a137), (.ref a148)] .null := Arv.set Ar155 q155 S155 N155 H155 G155 (by rfl) W156 13 rfl (Nat.le_of_ble_eq_true rfl)
  refine own_go (U' := T156.setTop (mkF m 105 (lc1 p1 b2) [(.int ((p1 &&& (2147483647 : Int32)) % (14 : Int32)))])) (fun t k => obipush X0 hx hby at_0 (st2 _ (odup X2 hx hby at_5 rfl (oiconst X2 hx hby at_6 (st7 _ (st12 _ (odup X12 hx hby at_11 rfl (oiconst X12 hx hby at_12 (st19 _ (st24 _ (odup X24 hx hby at_17 rfl (oiconst X24 hx hby at_18 (st30 _ (st35 _ (odup X35 hx hby at_23 rfl (oiconst X35 hx hby at_24 (st41 _ (st46 _ (odup X46 hx hby at_29 rfl (oiconst X46 hx hby at_30 (st52 _ (st57 _ (odup X57 hx hby at_35 rfl (oiconst X57 hx hby at_36 (st63 _ (st68 _ (odup X68 hx hby at_41 rfl (obipush X68 hx hby at_42 (st74 _ (st79 _ (odup X79 hx hby at_48 rfl (obipush X79 hx hby at_49 (st85 _ (st90 _ (odup X90 hx hby at_55 rfl (obipush X90 hx hby at_56 (st96 _ (st101 _ (odup X101 hx hby at_62 rfl (obipush X101 hx hby at_63 (st107 _ (st112 _ (odup X112 hx hby at_69 rfl (obipush X112 hx hby at_70 (st118 _ (st123 _ (odup X123 hx hby at_76 rfl (obipush X123 hx hby at_77 (st129 _ (st134 _ (odup X134 hx hby at_83 rfl (obipush X134 hx hby at_84 (st140 _ (st145 _ (odup X145 hx hby at_90 rfl (obipush X145 hx hby at_91 (st151 _ (st156 _ (oastoreN X156 hx hby at_97 (lc1 p1 b2) rfl rfl (oiloadN X156 hx hby at_98 rfl (X156.ldcInt hx hown (mvT hZ (ww hw 32 rfl)) (g := (mkF m 99 (lc1 p1 b2) [(.int p1)])) rfl (hb hby at_99) _ (oiand X156 hx hby at_101 (obipush X156 hx hby at_102 (oirem X156 hx hby at_104 (by decide) k)))))))))))))))))))))))))))))))))))))))))))))))))))))))))))))))) ?_
  rw [hv159]
  obtain ⟨cl160, Ar160, q160, S160, N160, H160, G160⟩ := id f158
  have hin161 : ¬ ((5 : Int32) < 0 ∨ cl160.slots.size ≤ ((5 : Int32)).toNatClampNeg) := inb_of S160 ⟨by decide, by decide⟩
  have hat161 : cl160.slots[((5 : Int32)).toNatClampNeg]? = some (.ref a60) := Has.at H160 hin161 rfl
  refine own_go (U' := T156.setTop (mkF m 113 (lc3 p1 b2 5 a60) [(.int 9), (.int 5)])) (fun t k => oistoreN X156 hx hby at_105 (lc2 p1 b2 5) rfl (oaloadN X156 hx hby at_106 rfl rfl (oiloadN X156 hx hby at_107 rfl (X156.aaload hx (j := (5 : Int32)) (v := (.ref a60)) (by rw [e156]; exact Ar160.1) (State.isArrayOf_alike hZ.alike Ar160.2.1) rfl Ar160.2.2 hin161 hat161 (g := (mkF m 108 (lc2 p1 b2 5) [(.int 5), (.ref b2)])) rfl rfl (hb hby at_108) _ (oastoreN X156 hx hby at_109 (lc3 p1 b2 5 a60) rfl rfl (oiloadN X156 hx hby at_110 rfl (obipush X156 hx hby at_111 k))))))) ?_
  refine own_go (U' := T156.setTop (mkF m 119 (lc3 p1 b2 5 a60) [(.int 10), (.int 5)])) (fun t k => oicN X156 hx hby at_113 (by decide) (oiloadN X156 hx hby at_116 rfl (obipush X156 hx hby at_117 k))) ?_
  have f163 : Exa Z h156 a60 zs0 := (Exa.wr W156 (Exa.wr W145 (Exa.wr W134 (Exa.wr W123 (Exa.wr W112 (Exa.wr W101 (Exa.wr W90 (Exa.wr W79 (Exa.wr W68 f65)))))))))
  have f164 : Sta Z h156 zs0 "INVALID_JSON" zs1 (.ref a104) := (Sta.wr W156 (Sta.wr W145 (Sta.wr W134 (Sta.wr W123 (Sta.wr W112 f106)))))
  have f166 : Sta Z h156 zs0 "INVALID_TEXT" zs1 (.ref a115) := (Sta.wr W156 (Sta.wr W145 (Sta.wr W134 (Sta.wr W123 f117))))
  have Z_1 : n0 ≤ h2.size := Nat.le_trans Z0 E2.1
  have Z_2 : n0 ≤ h12.size := Nat.le_trans Z_1 (Keep.of_wr W12).1
  have Z_3 : n0 ≤ h24.size := Nat.le_trans Z_2 (Keep.of_wr W24).1
  have Z_4 : n0 ≤ h35.size := Nat.le_trans Z_3 (Keep.of_wr W35).1
  have Z_5 : n0 ≤ h46.size := Nat.le_trans Z_4 (Keep.of_wr W46).1
  have Z_6 : n0 ≤ h57.size := Nat.le_trans Z_5 (Keep.of_wr W57).1
  have Z_7 : n0 ≤ h68.size := Nat.le_trans Z_6 (Keep.of_wr W68).1
  have Z_8 : n0 ≤ h79.size := Nat.le_trans Z_7 (Keep.of_wr W79).1
  have Z_9 : n0 ≤ h90.size := Nat.le_trans Z_8 (Keep.of_wr W90).1
  have Z_10 : n0 ≤ h101.size := Nat.le_trans Z_9 (Keep.of_wr W101).1
  have Z_11 : n0 ≤ h112.size := Nat.le_trans Z_10 (Keep.of_wr W112).1
  have Z_12 : n0 ≤ h123.size := Nat.le_trans Z_11 (Keep.of_wr W123).1
  have Z_13 : n0 ≤ h134.size := Nat.le_trans Z_12 (Keep.of_wr W134).1
  have Z_14 : n0 ≤ h145.size := Nat.le_trans Z_13 (Keep.of_wr W145).1
  have Z_15 : n0 ≤ h156.size := Nat.le_trans Z_14 (Keep.of_wr W156).1
  obtain ⟨_, T162, L162, X162, hQ162, st162⟩ := ocallV X156 hx hZ zm0 zm0 hown (ww hw 33 rfl) (ww hw 34 rfl) (notFace_of_selects (args := #[]) (mvT hZ (ww hw 36 rfl))) (ww hw 36 rfl) (ww hw 35 rfl) (by decide) (ww hw 37 rfl) (ww hw 3 rfl) e156 f163 (rm1_0 l Z a0 hw [] a60 a104 a115 h156 n0 Z_15 f164 ha165 f166 ha167) (st := [(.ref a60)]) rfl 0 rfl (by decide) (pc := 130) (Ls := (lc4 p1 b2 5 a60 0)) hml rfl (lenOf pd_0 rfl) at_130 hby
  obtain ⟨rfl, N162q, e162⟩ := hQ162
  have N168 := Fr.app N157 N162q
  refine own_go (U' := T162.setTop (mkF m 135 (lc4 p1 b2 5 a60 0) [(.int 0), (.int 0)])) (fun t k => oicY (pc := 119) X156 hx hby at_119 126 (by decide) (by decide) (oiconst X156 hx hby at_126 (oistore X156 hx hby at_127 (lc4 p1 b2 5 a60 0) rfl (oaloadN X156 hx hby at_129 rfl rfl (st162 _ (oiload X162 hx hby at_133 rfl k)))))) ?_
  refine own_go (U' := T162.setTop (mkF m 143 (lc4 p1 b2 5 a60 0) [(.int 1)])) (fun t k => oicN X162 hx hby at_135 (by decide) (oiconst X162 hx hby at_138 (ogoto (pc := 139) X162 hx hby at_139 143 (by decide) k))) ?_
  obtain ⟨fs, hr, hrun, hended, hW, hsame⟩ := X162.leave (v := some (.int 1)) (fun h => by rw [Bd.returns] at h; cases h)
  refine own_out ⟨_, _, ?_, hrun, hended, _, _, rfl, ?_, ⟨_, rfl⟩, hW, hsame.mono (by decide) (by decide)⟩
  · exact retN X162 hx (t := .boolean) Bd.returns (by simp) (hb hby at_143) hr
  · exact ⟨rfl, N168⟩
set_option maxRecDepth 65536 in
set_option maxHeartbeats 40000000 in
theorem rm0_7 (l : Launch) (Z : State) (a0 : Array Value) (hw : ∀ d ∈ tables_1, d.before a0 Z = true) (ws : List Jvm.Cond) (p1 : Int32) (a4 : Addr) (a16 : Addr) (a27 : Addr) (a38 : Addr) (a49 : Addr) (a60 : Addr) (a71 : Addr) (a82 : Addr) (a93 : Addr) (a104 : Addr) (a115 : Addr) (a126 : Addr) (a137 : Addr) (a148 : Addr) (h0 : Heap) (n0 : Nat) (Z0 : n0 ≤ h0.size) (F5 : Sta Z h0 zs0 zs2 zs1 (.ref a4)) (F8 : Exa Z h0 a4 zs0) (F17 : Sta Z h0 zs0 zs3 zs1 (.ref a16)) (F20 : Exa Z h0 a16 zs0) (F28 : Sta Z h0 zs0 zs4 zs1 (.ref a27)) (F31 : Exa Z h0 a27 zs0) (F39 : Sta Z h0 zs0 zs5 zs1 (.ref a38)) (F42 : Exa Z h0 a38 zs0) (F50 : Sta Z h0 zs0 zs6 zs1 (.ref a49)) (F53 : Exa Z h0 a49 zs0) (F61 : Sta Z h0 zs0 zs7 zs1 (.ref a60)) (F64 : Exa Z h0 a60 zs0) (F72 : Sta Z h0 zs0 zs8 zs1 (.ref a71)) (F75 : Exa Z h0 a71 zs0) (F83 : Sta Z h0 zs0 zs9 zs1 (.ref a82)) (F86 : Exa Z h0 a82 zs0) (F94 : Sta Z h0 zs0 zs10 zs1 (.ref a93)) (F97 : Exa Z h0 a93 zs0) (F105 : Sta Z h0 zs0 "INVALID_JSON" zs1 (.ref a104)) (F108 : Exa Z h0 a104 zs0) (F116 : Sta Z h0 zs0 "INVALID_TEXT" zs1 (.ref a115)) (F119 : Exa Z h0 a115 zs0) (F127 : Sta Z h0 zs0 zs11 zs1 (.ref a126)) (F130 : Exa Z h0 a126 zs0) (F138 : Sta Z h0 zs0 zs12 zs1 (.ref a137)) (F141 : Exa Z h0 a137 zs0) (F149 : Sta Z h0 zs0 "UNKNOWN_ITEM" zs1 (.ref a148)) (F152 : Exa Z h0 a148 zs0) (hv159 : ((p1 &&& (2147483647 : Int32)) % (14 : Int32)) = (6 : Int32)) (ha165 : a71 ≠ a104) (ha167 : a71 ≠ a115) :
    MetFree l x (head1 (Jvm.Cond.code x code maxLocals ret :: ws) room_1) (fun a U => a = #[(.int p1)] ∧ Z.Warmed39 U.vm ∧ U.heap = h0) (fun _ _ _ _ _ => True) (fun _ U o U' => ∃ v L, o = .returned v ∧ QLaw n0 v U'.heap L ∧ FrameEnd U o U' L room_1.cells room_1.slots) := by
  refine MetFree.of_bodySF (plainFor_of_name pn_com_example_strict_ledger_strictledger_RefusalCodeIsAboutTextPinLaw) hisR ?_
  intro p e s m args below meth c s₁ Bd hml0 hP hK
  obtain ⟨rfl, hZ, hh⟩ := hP
  have hx := Bd.exec
  have hby := Bd.bytes
  have hml : c.maxLocals = 5 := hml0
  have hown : s.vm.findClass zs13 = some m.cls := findClass_of_methodNamed Bd.named
  have hnm := (name_of_methodNamed Bd.named Bd.method).1
  have X0 : Stand p l e room_1 s m #[(.int p1)] below meth c s₁ [] 0 0 := Stand.of_body Bd
  have e0 : s₁.heap = h0 := by rw [← hh, Bd.state]; rfl
  have N0 := Fr.nil n0
  refine own_pre (g' := mkF m 0 (lc0 p1) []) (ef_1 m p1) ?_
  obtain ⟨T2, h2, k2, X2, e2, E2, A2, B2, O2, st2⟩ := newRE X0 hx hZ hown (ww hw 0 rfl) (ww hw 1 rfl) e0 (g := (mkF m 2 (lc0 p1) [(.int 14)])) rfl (hb hby at_2) rfl (by decide) (cap := 14) (by decide) (by decide) (by decide) (by decide) (ad := zs14) (by decide)
  obtain ⟨b2, g2⟩ : ∃ z, z = h0.size := ⟨_, rfl⟩
  rw [← g2] at A2 B2 st2
  have f3 : Arv Z h2 b2 k2 (.object zs0) (14 : Int32) [] .null := Arv.new A2 (by decide)
  have f6 : Sta Z h2 zs0 zs2 zs1 (.ref a4) := (Sta.ext E2 F5)
  obtain ⟨T7, X7, e7, st7⟩ := getS2 X2 hx hZ hown (host := "") (Or.inl (ww hw 2 rfl)) Via.refl e2 f6 (g := (mkF m 7 (lc0 p1) [(.int 0), (.ref b2), (.ref b2)])) rfl (hb hby at_7)
  have f9 : Exa Z h2 a4 zs0 := (Exa.ext E2 F8)
  have f10 : Arv Z h2 b2 k2 (.object zs0) (14 : Int32) [.null] .null := f3.pad (pad_rep [] .null 1)
  obtain ⟨cl11, Ar11, q11, S11, N11, H11, G11⟩ := id f10
  have g13 : n0 ≤ b2 := Nat.le_trans Z0 (Nat.le_of_eq g2.symm)
  have hin12 : ¬ ((0 : Int32) < 0 ∨ cl11.slots.size ≤ ((0 : Int32)).toNatClampNeg) := inb_of S11 ⟨by decide, by decide⟩
  obtain ⟨T12, h12, X12, e12, W12, st12⟩ := stR X7 hx hZ e7 Ar11 (j := (0 : Int32)) hin12 rfl (Sto.ofV Ar11 q11 O2 (Ins.self f9)) (g := (mkF m 10 (lc0 p1) [(.ref a4), (.int 0), (.ref b2), (.ref b2)])) rfl rfl (hb hby at_10)
  have N14 := Fr.snoc X12 N0 g13
  have f15 : Arv Z h12 b2 k2 (.object zs0) (14 : Int32) [(.ref a4)] .null := Arv.set Ar11 q11 S11 N11 H11 G11 (by rfl) W12 0 rfl (Nat.le_of_ble_eq_true rfl)
  have f18 : Sta Z h12 zs0 zs3 zs1 (.ref a16) := (Sta.wr W12 (Sta.ext E2 F17))
  obtain ⟨T19, X19, e19, st19⟩ := getS2 X12 hx hZ hown (host := "") (Or.inl (ww hw 6 rfl)) Via.refl e12 f18 (g := (mkF m 13 (lc0 p1) [(.int 1), (.ref b2), (.ref b2)])) rfl (hb hby at_13)
  have f21 : Exa Z h12 a16 zs0 := (Exa.wr W12 (Exa.ext E2 F20))
  have f22 : Arv Z h12 b2 k2 (.object zs0) (14 : Int32) [(.ref a4), .null] .null := f15.pad (pad_rep [(.ref a4)] .null 1)
  obtain ⟨cl23, Ar23, q23, S23, N23, H23, G23⟩ := id f22
  have hin24 : ¬ ((1 : Int32) < 0 ∨ cl23.slots.size ≤ ((1 : Int32)).toNatClampNeg) := inb_of S23 ⟨by decide, by decide⟩
  obtain ⟨T24, h24, X24, e24, W24, st24⟩ := stR X19 hx hZ e19 Ar23 (j := (1 : Int32)) hin24 rfl (Sto.ofV Ar23 q23 O2 (Ins.self f21)) (g := (mkF m 16 (lc0 p1) [(.ref a16), (.int 1), (.ref b2), (.ref b2)])) rfl rfl (hb hby at_16)
  have N25 := Fr.snoc X24 N14 g13
  have f26 : Arv Z h24 b2 k2 (.object zs0) (14 : Int32) [(.ref a4), (.ref a16)] .null := Arv.set Ar23 q23 S23 N23 H23 G23 (by rfl) W24 1 rfl (Nat.le_of_ble_eq_true rfl)
  have f29 : Sta Z h24 zs0 zs4 zs1 (.ref a27) := (Sta.wr W24 (Sta.wr W12 (Sta.ext E2 F28)))
  obtain ⟨T30, X30, e30, st30⟩ := getS2 X24 hx hZ hown (host := "") (Or.inl (ww hw 8 rfl)) Via.refl e24 f29 (g := (mkF m 19 (lc0 p1) [(.int 2), (.ref b2), (.ref b2)])) rfl (hb hby at_19)
  have f32 : Exa Z h24 a27 zs0 := (Exa.wr W24 (Exa.wr W12 (Exa.ext E2 F31)))
  have f33 : Arv Z h24 b2 k2 (.object zs0) (14 : Int32) [(.ref a4), (.ref a16), .null] .null := f26.pad (pad_rep [(.ref a4), (.ref a16)] .null 1)
  obtain ⟨cl34, Ar34, q34, S34, N34, H34, G34⟩ := id f33
  have hin35 : ¬ ((2 : Int32) < 0 ∨ cl34.slots.size ≤ ((2 : Int32)).toNatClampNeg) := inb_of S34 ⟨by decide, by decide⟩
  obtain ⟨T35, h35, X35, e35, W35, st35⟩ := stR X30 hx hZ e30 Ar34 (j := (2 : Int32)) hin35 rfl (Sto.ofV Ar34 q34 O2 (Ins.self f32)) (g := (mkF m 22 (lc0 p1) [(.ref a27), (.int 2), (.ref b2), (.ref b2)])) rfl rfl (hb hby at_22)
  have N36 := Fr.snoc X35 N25 g13
  have f37 : Arv Z h35 b2 k2 (.object zs0) (14 : Int32) [(.ref a4), (.ref a16), (.ref a27)] .null := Arv.set Ar34 q34 S34 N34 H34 G34 (by rfl) W35 2 rfl (Nat.le_of_ble_eq_true rfl)
  have f40 : Sta Z h35 zs0 zs5 zs1 (.ref a38) := (Sta.wr W35 (Sta.wr W24 (Sta.wr W12 (Sta.ext E2 F39))))
  obtain ⟨T41, X41, e41, st41⟩ := getS2 X35 hx hZ hown (host := "") (Or.inl (ww hw 10 rfl)) Via.refl e35 f40 (g := (mkF m 25 (lc0 p1) [(.int 3), (.ref b2), (.ref b2)])) rfl (hb hby at_25)
  have f43 : Exa Z h35 a38 zs0 := (Exa.wr W35 (Exa.wr W24 (Exa.wr W12 (Exa.ext E2 F42))))
  have f44 : Arv Z h35 b2 k2 (.object zs0) (14 : Int32) [(.ref a4), (.ref a16), (.ref a27), .null] .null := f37.pad (pad_rep [(.ref a4), (.ref a16), (.ref a27)] .null 1)
  obtain ⟨cl45, Ar45, q45, S45, N45, H45, G45⟩ := id f44
  have hin46 : ¬ ((3 : Int32) < 0 ∨ cl45.slots.size ≤ ((3 : Int32)).toNatClampNeg) := inb_of S45 ⟨by decide, by decide⟩
  obtain ⟨T46, h46, X46, e46, W46, st46⟩ := stR X41 hx hZ e41 Ar45 (j := (3 : Int32)) hin46 rfl (Sto.ofV Ar45 q45 O2 (Ins.self f43)) (g := (mkF m 28 (lc0 p1) [(.ref a38), (.int 3), (.ref b2), (.ref b2)])) rfl rfl (hb hby at_28)
  have N47 := Fr.snoc X46 N36 g13
  have f48 : Arv Z h46 b2 k2 (.object zs0) (14 : Int32) [(.ref a4), (.ref a16), (.ref a27), (.ref a38)] .null := Arv.set Ar45 q45 S45 N45 H45 G45 (by rfl) W46 3 rfl (Nat.le_of_ble_eq_true rfl)
  have f51 : Sta Z h46 zs0 zs6 zs1 (.ref a49) := (Sta.wr W46 (Sta.wr W35 (Sta.wr W24 (Sta.wr W12 (Sta.ext E2 F50)))))
  obtain ⟨T52, X52, e52, st52⟩ := getS2 X46 hx hZ hown (host := "") (Or.inl (ww hw 12 rfl)) Via.refl e46 f51 (g := (mkF m 31 (lc0 p1) [(.int 4), (.ref b2), (.ref b2)])) rfl (hb hby at_31)
  have f54 : Exa Z h46 a49 zs0 := (Exa.wr W46 (Exa.wr W35 (Exa.wr W24 (Exa.wr W12 (Exa.ext E2 F53)))))
  have f55 : Arv Z h46 b2 k2 (.object zs0) (14 : Int32) [(.ref a4), (.ref a16), (.ref a27), (.ref a38), .null] .null := f48.pad (pad_rep [(.ref a4), (.ref a16), (.ref a27), (.ref a38)] .null 1)
  obtain ⟨cl56, Ar56, q56, S56, N56, H56, G56⟩ := id f55
  have hin57 : ¬ ((4 : Int32) < 0 ∨ cl56.slots.size ≤ ((4 : Int32)).toNatClampNeg) := inb_of S56 ⟨by decide, by decide⟩
  obtain ⟨T57, h57, X57, e57, W57, st57⟩ := stR X52 hx hZ e52 Ar56 (j := (4 : Int32)) hin57 rfl (Sto.ofV Ar56 q56 O2 (Ins.self f54)) (g := (mkF m 34 (lc0 p1) [(.ref a49), (.int 4), (.ref b2), (.ref b2)])) rfl rfl (hb hby at_34)
  have N58 := Fr.snoc X57 N47 g13
  have f59 : Arv Z h57 b2 k2 (.object zs0) (14 : Int32) [(.ref a4), (.ref a16), (.ref a27), (.ref a38), (.ref a49)] .null := Arv.set Ar56 q56 S56 N56 H56 G56 (by rfl) W57 4 rfl (Nat.le_of_ble_eq_true rfl)
  have f62 : Sta Z h57 zs0 zs7 zs1 (.ref a60) := (Sta.wr W57 (Sta.wr W46 (Sta.wr W35 (Sta.wr W24 (Sta.wr W12 (Sta.ext E2 F61))))))
  obtain ⟨T63, X63, e63, st63⟩ := getS2 X57 hx hZ hown (host := "") (Or.inl (ww hw 14 rfl)) Via.refl e57 f62 (g := (mkF m 37 (lc0 p1) [(.int 5), (.ref b2), (.ref b2)])) rfl (hb hby at_37)
  have f65 : Exa Z h57 a60 zs0 := (Exa.wr W57 (Exa.wr W46 (Exa.wr W35 (Exa.wr W24 (Exa.wr W12 (Exa.ext E2 F64))))))
  have f66 : Arv Z h57 b2 k2 (.object zs0) (14 : Int32) [(.ref a4), (.ref a16), (.ref a27), (.ref a38), (.ref a49), .null] .null := f59.pad (pad_rep [(.ref a4), (.ref a16), (.ref a27), (.ref a38), (.ref a49)] .null 1)
  obtain ⟨cl67, Ar67, q67, S67, N67, H67, G67⟩ := id f66
  have hin68 : ¬ ((5 : Int32) < 0 ∨ cl67.slots.size ≤ ((5 : Int32)).toNatClampNeg) := inb_of S67 ⟨by decide, by decide⟩
  obtain ⟨T68, h68, X68, e68, W68, st68⟩ := stR X63 hx hZ e63 Ar67 (j := (5 : Int32)) hin68 rfl (Sto.ofV Ar67 q67 O2 (Ins.self f65)) (g := (mkF m 40 (lc0 p1) [(.ref a60), (.int 5), (.ref b2), (.ref b2)])) rfl rfl (hb hby at_40)
  have N69 := Fr.snoc X68 N58 g13
  have f70 : Arv Z h68 b2 k2 (.object zs0) (14 : Int32) [(.ref a4), (.ref a16), (.ref a27), (.ref a38), (.ref a49), (.ref a60)] .null := Arv.set Ar67 q67 S67 N67 H67 G67 (by rfl) W68 5 rfl (Nat.le_of_ble_eq_true rfl)
  have f73 : Sta Z h68 zs0 zs8 zs1 (.ref a71) := (Sta.wr W68 (Sta.wr W57 (Sta.wr W46 (Sta.wr W35 (Sta.wr W24 (Sta.wr W12 (Sta.ext E2 F72)))))))
  obtain ⟨T74, X74, e74, st74⟩ := getS2 X68 hx hZ hown (host := "") (Or.inl (ww hw 16 rfl)) Via.refl e68 f73 (g := (mkF m 44 (lc0 p1) [(.int 6), (.ref b2), (.ref b2)])) rfl (hb hby at_44)
  have f76 : Exa Z h68 a71 zs0 := (Exa.wr W68 (Exa.wr W57 (Exa.wr W46 (Exa.wr W35 (Exa.wr W24 (Exa.wr W12 (Exa.ext E2 F75)))))))
  have f77 : Arv Z h68 b2 k2 (.object zs0) (14 : Int32) [(.ref a4), (.ref a16), (.ref a27), (.ref a38), (.ref a49), (.ref a60), .null] .null := f70.pad (pad_rep [(.ref a4), (.ref a16), (.ref a27), (.ref a38), (.ref a49), (.ref a60)] .null 1)
  obtain ⟨cl78, Ar78, q78, S78, N78, H78, G78⟩ := id f77
  have hin79 : ¬ ((6 : Int32) < 0 ∨ cl78.slots.size ≤ ((6 : Int32)).toNatClampNeg) := inb_of S78 ⟨by decide, by decide⟩
  obtain ⟨T79, h79, X79, e79, W79, st79⟩ := stR X74 hx hZ e74 Ar78 (j := (6 : Int32)) hin79 rfl (Sto.ofV Ar78 q78 O2 (Ins.self f76)) (g := (mkF m 47 (lc0 p1) [(.ref a71), (.int 6), (.ref b2), (.ref b2)])) rfl rfl (hb hby at_47)
  have N80 := Fr.snoc X79 N69 g13
  have f81 : Arv Z h79 b2 k2 (.object zs0) (14 : Int32) [(.ref a4), (.ref a16), (.ref a27), (.ref a38), (.ref a49), (.ref a60), (.ref a71)] .null := Arv.set Ar78 q78 S78 N78 H78 G78 (by rfl) W79 6 rfl (Nat.le_of_ble_eq_true rfl)
  have f84 : Sta Z h79 zs0 zs9 zs1 (.ref a82) := (Sta.wr W79 (Sta.wr W68 (Sta.wr W57 (Sta.wr W46 (Sta.wr W35 (Sta.wr W24 (Sta.wr W12 (Sta.ext E2 F83))))))))
  obtain ⟨T85, X85, e85, st85⟩ := getS2 X79 hx hZ hown (host := "") (Or.inl (ww hw 18 rfl)) Via.refl e79 f84 (g := (mkF m 51 (lc0 p1) [(.int 7), (.ref b2), (.ref b2)])) rfl (hb hby at_51)
  have f87 : Exa Z h79 a82 zs0 := (Exa.wr W79 (Exa.wr W68 (Exa.wr W57 (Exa.wr W46 (Exa.wr W35 (Exa.wr W24 (Exa.wr W12 (Exa.ext E2 F86))))))))
  have f88 : Arv Z h79 b2 k2 (.object zs0) (14 : Int32) [(.ref a4), (.ref a16), (.ref a27), (.ref a38), (.ref a49), (.ref a60), (.ref a71), .null] .null := f81.pad (pad_rep [(.ref a4), (.ref a16), (.ref a27), (.ref a38), (.ref a49), (.ref a60), (.ref a71)] .null 1)
  obtain ⟨cl89, Ar89, q89, S89, N89, H89, G89⟩ := id f88
  have hin90 : ¬ ((7 : Int32) < 0 ∨ cl89.slots.size ≤ ((7 : Int32)).toNatClampNeg) := inb_of S89 ⟨by decide, by decide⟩
  obtain ⟨T90, h90, X90, e90, W90, st90⟩ := stR X85 hx hZ e85 Ar89 (j := (7 : Int32)) hin90 rfl (Sto.ofV Ar89 q89 O2 (Ins.self f87)) (g := (mkF m 54 (lc0 p1) [(.ref a82), (.int 7), (.ref b2), (.ref b2)])) rfl rfl (hb hby at_54)
  have N91 := Fr.snoc X90 N80 g13
  have f92 : Arv Z h90 b2 k2 (.object zs0) (14 : Int32) [(.ref a4), (.ref a16), (.ref a27), (.ref a38), (.ref a49), (.ref a60), (.ref a71), (.ref a82)] .null := Arv.set Ar89 q89 S89 N89 H89 G89 (by rfl) W90 7 rfl (Nat.le_of_ble_eq_true rfl)
  have f95 : Sta Z h90 zs0 zs10 zs1 (.ref a93) := (Sta.wr W90 (Sta.wr W79 (Sta.wr W68 (Sta.wr W57 (Sta.wr W46 (Sta.wr W35 (Sta.wr W24 (Sta.wr W12 (Sta.ext E2 F94)))))))))
  obtain ⟨T96, X96, e96, st96⟩ := getS2 X90 hx hZ hown (host := "") (Or.inl (ww hw 20 rfl)) Via.refl e90 f95 (g := (mkF m 58 (lc0 p1) [(.int 8), (.ref b2), (.ref b2)])) rfl (hb hby at_58)
  have f98 : Exa Z h90 a93 zs0 := (Exa.wr W90 (Exa.wr W79 (Exa.wr W68 (Exa.wr W57 (Exa.wr W46 (Exa.wr W35 (Exa.wr W24 (Exa.wr W12 (Exa.ext E2 F97)))))))))
  have f99 : Arv Z h90 b2 k2 (.object zs0) (14 : Int32) [(.ref a4), (.ref a16), (.ref a27), (.ref a38), (.ref a49), (.ref a60), (.ref a71), (.ref a82), .null] .null := f92.pad (pad_rep [(.ref a4), (.ref a16), (.ref a27), (.ref a38), (.ref a49), (.ref a60), (.ref a71), (.ref a82)] .null 1)
  obtain ⟨cl100, Ar100, q100, S100, N100, H100, G100⟩ := id f99
  have hin101 : ¬ ((8 : Int32) < 0 ∨ cl100.slots.size ≤ ((8 : Int32)).toNatClampNeg) := inb_of S100 ⟨by decide, by decide⟩
  obtain ⟨T101, h101, X101, e101, W101, st101⟩ := stR X96 hx hZ e96 Ar100 (j := (8 : Int32)) hin101 rfl (Sto.ofV Ar100 q100 O2 (Ins.self f98)) (g := (mkF m 61 (lc0 p1) [(.ref a93), (.int 8), (.ref b2), (.ref b2)])) rfl rfl (hb hby at_61)
  have N102 := Fr.snoc X101 N91 g13
  have f103 : Arv Z h101 b2 k2 (.object zs0) (14 : Int32) [(.ref a4), (.ref a16), (.ref a27), (.ref a38), (.ref a49), (.ref a60), (.ref a71), (.ref a82), (.ref a93)] .null := Arv.set Ar100 q100 S100 N100 H100 G100 (by rfl) W101 8 rfl (Nat.le_of_ble_eq_true rfl)
  have f106 : Sta Z h101 zs0 "INVALID_JSON" zs1 (.ref a104) := (Sta.wr W101 (Sta.wr W90 (Sta.wr W79 (Sta.wr W68 (Sta.wr W57 (Sta.wr W46 (Sta.wr W35 (Sta.wr W24 (Sta.wr W12 (Sta.ext E2 F105))))))))))
  obtain ⟨T107, X107, e107, st107⟩ := getS2 X101 hx hZ hown (host := "") (Or.inl (ww hw 22 rfl)) Via.refl e101 f106 (g := (mkF m 65 (lc0 p1) [(.int 9), (.ref b2), (.ref b2)])) rfl (hb hby at_65)
  have f109 : Exa Z h101 a104 zs0 := (Exa.wr W101 (Exa.wr W90 (Exa.wr W79 (Exa.wr W68 (Exa.wr W57 (Exa.wr W46 (Exa.wr W35 (Exa.wr W24 (Exa.wr W12 (Exa.ext E2 F108))))))))))
  have f110 : Arv Z h101 b2 k2 (.object zs0) (14 : Int32) [(.ref a4), (.ref a16), (.ref a27), (.ref a38), (.ref a49), (.ref a60), (.ref a71), (.ref a82), (.ref a93), .null] .null := f103.pad (pad_rep [(.ref a4), (.ref a16), (.ref a27), (.ref a38), (.ref a49), (.ref a60), (.ref a71), (.ref a82), (.ref a93)] .null 1)
  obtain ⟨cl111, Ar111, q111, S111, N111, H111, G111⟩ := id f110
  have hin112 : ¬ ((9 : Int32) < 0 ∨ cl111.slots.size ≤ ((9 : Int32)).toNatClampNeg) := inb_of S111 ⟨by decide, by decide⟩
  obtain ⟨T112, h112, X112, e112, W112, st112⟩ := stR X107 hx hZ e107 Ar111 (j := (9 : Int32)) hin112 rfl (Sto.ofV Ar111 q111 O2 (Ins.self f109)) (g := (mkF m 68 (lc0 p1) [(.ref a104), (.int 9), (.ref b2), (.ref b2)])) rfl rfl (hb hby at_68)
  have N113 := Fr.snoc X112 N102 g13
  have f114 : Arv Z h112 b2 k2 (.object zs0) (14 : Int32) [(.ref a4), (.ref a16), (.ref a27), (.ref a38), (.ref a49), (.ref a60), (.ref a71), (.ref a82), (.ref a93), (.ref a104)] .null := Arv.set Ar111 q111 S111 N111 H111 G111 (by rfl) W112 9 rfl (Nat.le_of_ble_eq_true rfl)
  have f117 : Sta Z h112 zs0 "INVALID_TEXT" zs1 (.ref a115) := (Sta.wr W112 (Sta.wr W101 (Sta.wr W90 (Sta.wr W79 (Sta.wr W68 (Sta.wr W57 (Sta.wr W46 (Sta.wr W35 (Sta.wr W24 (Sta.wr W12 (Sta.ext E2 F116)))))))))))
  obtain ⟨T118, X118, e118, st118⟩ := getS2 X112 hx hZ hown (host := "") (Or.inl (ww hw 24 rfl)) Via.refl e112 f117 (g := (mkF m 72 (lc0 p1) [(.int 10), (.ref b2), (.ref b2)])) rfl (hb hby at_72)
  have f120 : Exa Z h112 a115 zs0 := (Exa.wr W112 (Exa.wr W101 (Exa.wr W90 (Exa.wr W79 (Exa.wr W68 (Exa.wr W57 (Exa.wr W46 (Exa.wr W35 (Exa.wr W24 (Exa.wr W12 (Exa.ext E2 F119)))))))))))
  have f121 : Arv Z h112 b2 k2 (.object zs0) (14 : Int32) [(.ref a4), (.ref a16), (.ref a27), (.ref a38), (.ref a49), (.ref a60), (.ref a71), (.ref a82), (.ref a93), (.ref a104), .null] .null := f114.pad (pad_rep [(.ref a4), (.ref a16), (.ref a27), (.ref a38), (.ref a49), (.ref a60), (.ref a71), (.ref a82), (.ref a93), (.ref a104)] .null 1)
  obtain ⟨cl122, Ar122, q122, S122, N122, H122, G122⟩ := id f121
  have hin123 : ¬ ((10 : Int32) < 0 ∨ cl122.slots.size ≤ ((10 : Int32)).toNatClampNeg) := inb_of S122 ⟨by decide, by decide⟩
  obtain ⟨T123, h123, X123, e123, W123, st123⟩ := stR X118 hx hZ e118 Ar122 (j := (10 : Int32)) hin123 rfl (Sto.ofV Ar122 q122 O2 (Ins.self f120)) (g := (mkF m 75 (lc0 p1) [(.ref a115), (.int 10), (.ref b2), (.ref b2)])) rfl rfl (hb hby at_75)
  have N124 := Fr.snoc X123 N113 g13
  have f125 : Arv Z h123 b2 k2 (.object zs0) (14 : Int32) [(.ref a4), (.ref a16), (.ref a27), (.ref a38), (.ref a49), (.ref a60), (.ref a71), (.ref a82), (.ref a93), (.ref a104), (.ref a115)] .null := Arv.set Ar122 q122 S122 N122 H122 G122 (by rfl) W123 10 rfl (Nat.le_of_ble_eq_true rfl)
  have f128 : Sta Z h123 zs0 zs11 zs1 (.ref a126) := (Sta.wr W123 (Sta.wr W112 (Sta.wr W101 (Sta.wr W90 (Sta.wr W79 (Sta.wr W68 (Sta.wr W57 (Sta.wr W46 (Sta.wr W35 (Sta.wr W24 (Sta.wr W12 (Sta.ext E2 F127))))))))))))
  obtain ⟨T129, X129, e129, st129⟩ := getS2 X123 hx hZ hown (host := "") (Or.inl (ww hw 26 rfl)) Via.refl e123 f128 (g := (mkF m 79 (lc0 p1) [(.int 11), (.ref b2), (.ref b2)])) rfl (hb hby at_79)
  have f131 : Exa Z h123 a126 zs0 := (Exa.wr W123 (Exa.wr W112 (Exa.wr W101 (Exa.wr W90 (Exa.wr W79 (Exa.wr W68 (Exa.wr W57 (Exa.wr W46 (Exa.wr W35 (Exa.wr W24 (Exa.wr W12 (Exa.ext E2 F130))))))))))))
  have f132 : Arv Z h123 b2 k2 (.object zs0) (14 : Int32) [(.ref a4), (.ref a16), (.ref a27), (.ref a38), (.ref a49), (.ref a60), (.ref a71), (.ref a82), (.ref a93), (.ref a104), (.ref a115), .null] .null := f125.pad (pad_rep [(.ref a4), (.ref a16), (.ref a27), (.ref a38), (.ref a49), (.ref a60), (.ref a71), (.ref a82), (.ref a93), (.ref a104), (.ref a115)] .null 1)
  obtain ⟨cl133, Ar133, q133, S133, N133, H133, G133⟩ := id f132
  have hin134 : ¬ ((11 : Int32) < 0 ∨ cl133.slots.size ≤ ((11 : Int32)).toNatClampNeg) := inb_of S133 ⟨by decide, by decide⟩
  obtain ⟨T134, h134, X134, e134, W134, st134⟩ := stR X129 hx hZ e129 Ar133 (j := (11 : Int32)) hin134 rfl (Sto.ofV Ar133 q133 O2 (Ins.self f131)) (g := (mkF m 82 (lc0 p1) [(.ref a126), (.int 11), (.ref b2), (.ref b2)])) rfl rfl (hb hby at_82)
  have N135 := Fr.snoc X134 N124 g13
  have f136 : Arv Z h134 b2 k2 (.object zs0) (14 : Int32) [(.ref a4), (.ref a16), (.ref a27), (.ref a38), (.ref a49), (.ref a60), (.ref a71), (.ref a82), (.ref a93), (.ref a104), (.ref a115), (.ref a126)] .null := Arv.set Ar133 q133 S133 N133 H133 G133 (by rfl) W134 11 rfl (Nat.le_of_ble_eq_true rfl)
  have f139 : Sta Z h134 zs0 zs12 zs1 (.ref a137) := (Sta.wr W134 (Sta.wr W123 (Sta.wr W112 (Sta.wr W101 (Sta.wr W90 (Sta.wr W79 (Sta.wr W68 (Sta.wr W57 (Sta.wr W46 (Sta.wr W35 (Sta.wr W24 (Sta.wr W12 (Sta.ext E2 F138)))))))))))))
  obtain ⟨T140, X140, e140, st140⟩ := getS2 X134 hx hZ hown (host := "") (Or.inl (ww hw 28 rfl)) Via.refl e134 f139 (g := (mkF m 86 (lc0 p1) [(.int 12), (.ref b2), (.ref b2)])) rfl (hb hby at_86)
  have f142 : Exa Z h134 a137 zs0 := (Exa.wr W134 (Exa.wr W123 (Exa.wr W112 (Exa.wr W101 (Exa.wr W90 (Exa.wr W79 (Exa.wr W68 (Exa.wr W57 (Exa.wr W46 (Exa.wr W35 (Exa.wr W24 (Exa.wr W12 (Exa.ext E2 F141)))))))))))))
  have f143 : Arv Z h134 b2 k2 (.object zs0) (14 : Int32) [(.ref a4), (.ref a16), (.ref a27), (.ref a38), (.ref a49), (.ref a60), (.ref a71), (.ref a82), (.ref a93), (.ref a104), (.ref a115), (.ref a126), .null] .null := f136.pad (pad_rep [(.ref a4), (.ref a16), (.ref a27), (.ref a38), (.ref a49), (.ref a60), (.ref a71), (.ref a82), (.ref a93), (.ref a104), (.ref a115), (.ref a126)] .null 1)
  obtain ⟨cl144, Ar144, q144, S144, N144, H144, G144⟩ := id f143
  have hin145 : ¬ ((12 : Int32) < 0 ∨ cl144.slots.size ≤ ((12 : Int32)).toNatClampNeg) := inb_of S144 ⟨by decide, by decide⟩
  obtain ⟨T145, h145, X145, e145, W145, st145⟩ := stR X140 hx hZ e140 Ar144 (j := (12 : Int32)) hin145 rfl (Sto.ofV Ar144 q144 O2 (Ins.self f142)) (g := (mkF m 89 (lc0 p1) [(.ref a137), (.int 12), (.ref b2), (.ref b2)])) rfl rfl (hb hby at_89)
  have N146 := Fr.snoc X145 N135 g13
  have f147 : Arv Z h145 b2 k2 (.object zs0) (14 : Int32) [(.ref a4), (.ref a16), (.ref a27), (.ref a38), (.ref a49), (.ref a60), (.ref a71), (.ref a82), (.ref a93), (.ref a104), (.ref a115), (.ref a126), (.ref a137)] .null := Arv.set Ar144 q144 S144 N144 H144 G144 (by rfl) W145 12 rfl (Nat.le_of_ble_eq_true rfl)
  have f150 : Sta Z h145 zs0 "UNKNOWN_ITEM" zs1 (.ref a148) := (Sta.wr W145 (Sta.wr W134 (Sta.wr W123 (Sta.wr W112 (Sta.wr W101 (Sta.wr W90 (Sta.wr W79 (Sta.wr W68 (Sta.wr W57 (Sta.wr W46 (Sta.wr W35 (Sta.wr W24 (Sta.wr W12 (Sta.ext E2 F149))))))))))))))
  obtain ⟨T151, X151, e151, st151⟩ := getS2 X145 hx hZ hown (host := "") (Or.inl (ww hw 30 rfl)) Via.refl e145 f150 (g := (mkF m 93 (lc0 p1) [(.int 13), (.ref b2), (.ref b2)])) rfl (hb hby at_93)
  have f153 : Exa Z h145 a148 zs0 := (Exa.wr W145 (Exa.wr W134 (Exa.wr W123 (Exa.wr W112 (Exa.wr W101 (Exa.wr W90 (Exa.wr W79 (Exa.wr W68 (Exa.wr W57 (Exa.wr W46 (Exa.wr W35 (Exa.wr W24 (Exa.wr W12 (Exa.ext E2 F152))))))))))))))
  have f154 : Arv Z h145 b2 k2 (.object zs0) (14 : Int32) [(.ref a4), (.ref a16), (.ref a27), (.ref a38), (.ref a49), (.ref a60), (.ref a71), (.ref a82), (.ref a93), (.ref a104), (.ref a115), (.ref a126), (.ref a137), .null] .null := f147.pad (pad_rep [(.ref a4), (.ref a16), (.ref a27), (.ref a38), (.ref a49), (.ref a60), (.ref a71), (.ref a82), (.ref a93), (.ref a104), (.ref a115), (.ref a126), (.ref a137)] .null 1)
  obtain ⟨cl155, Ar155, q155, S155, N155, H155, G155⟩ := id f154
  have hin156 : ¬ ((13 : Int32) < 0 ∨ cl155.slots.size ≤ ((13 : Int32)).toNatClampNeg) := inb_of S155 ⟨by decide, by decide⟩
  obtain ⟨T156, h156, X156, e156, W156, st156⟩ := stR X151 hx hZ e151 Ar155 (j := (13 : Int32)) hin156 rfl (Sto.ofV Ar155 q155 O2 (Ins.self f153)) (g := (mkF m 96 (lc0 p1) [(.ref a148), (.int 13), (.ref b2), (.ref b2)])) rfl rfl (hb hby at_96)
  have N157 := Fr.snoc X156 N146 g13
  have f158 : Arv Z h156 b2 k2 (.object zs0) (14 : Int32) [(.ref a4), (.ref a16), (.ref a27), (.ref a38), (.ref a49), (.ref a60), (.ref a71), (.ref a82), (.ref a93), (.ref a104), (.ref a115), (.ref a126), (.ref a137), (.ref a148)] .null := Arv.set Ar155 q155 S155 N155 H155 G155 (by rfl) W156 13 rfl (Nat.le_of_ble_eq_true rfl)
  refine own_go (U' := T156.setTop (mkF m 105 (lc1 p1 b2) [(.int ((p1 &&& (2147483647 : Int32)) % (14 : Int32)))])) (fun t k => obipush X0 hx hby at_0 (st2 _ (odup X2 hx hby at_5 rfl (oiconst X2 hx hby at_6 (st7 _ (st12 _ (odup X12 hx hby at_11 rfl (oiconst X12 hx hby at_12 (st19 _ (st24 _ (odup X24 hx hby at_17 rfl (oiconst X24 hx hby at_18 (st30 _ (st35 _ (odup X35 hx hby at_23 rfl (oiconst X35 hx hby at_24 (st41 _ (st46 _ (odup X46 hx hby at_29 rfl (oiconst X46 hx hby at_30 (st52 _ (st57 _ (odup X57 hx hby at_35 rfl (oiconst X57 hx hby at_36 (st63 _ (st68 _ (odup X68 hx hby at_41 rfl (obipush X68 hx hby at_42 (st74 _ (st79 _ (odup X79 hx hby at_48 rfl (obipush X79 hx hby at_49 (st85 _ (st90 _ (odup X90 hx hby at_55 rfl (obipush X90 hx hby at_56 (st96 _ (st101 _ (odup X101 hx hby at_62 rfl (obipush X101 hx hby at_63 (st107 _ (st112 _ (odup X112 hx hby at_69 rfl (obipush X112 hx hby at_70 (st118 _ (st123 _ (odup X123 hx hby at_76 rfl (obipush X123 hx hby at_77 (st129 _ (st134 _ (odup X134 hx hby at_83 rfl (obipush X134 hx hby at_84 (st140 _ (st145 _ (odup X145 hx hby at_90 rfl (obipush X145 hx hby at_91 (st151 _ (st156 _ (oastoreN X156 hx hby at_97 (lc1 p1 b2) rfl rfl (oiloadN X156 hx hby at_98 rfl (X156.ldcInt hx hown (mvT hZ (ww hw 32 rfl)) (g := (mkF m 99 (lc1 p1 b2) [(.int p1)])) rfl (hb hby at_99) _ (oiand X156 hx hby at_101 (obipush X156 hx hby at_102 (oirem X156 hx hby at_104 (by decide) k)))))))))))))))))))))))))))))))))))))))))))))))))))))))))))))))) ?_
  rw [hv159]
  obtain ⟨cl160, Ar160, q160, S160, N160, H160, G160⟩ := id f158
  have hin161 : ¬ ((6 : Int32) < 0 ∨ cl160.slots.size ≤ ((6 : Int32)).toNatClampNeg) := inb_of S160 ⟨by decide, by decide⟩
  have hat161 : cl160.slots[((6 : Int32)).toNatClampNeg]? = some (.ref a71) := Has.at H160 hin161 rfl
  refine own_go (U' := T156.setTop (mkF m 113 (lc3 p1 b2 6 a71) [(.int 9), (.int 6)])) (fun t k => oistoreN X156 hx hby at_105 (lc2 p1 b2 6) rfl (oaloadN X156 hx hby at_106 rfl rfl (oiloadN X156 hx hby at_107 rfl (X156.aaload hx (j := (6 : Int32)) (v := (.ref a71)) (by rw [e156]; exact Ar160.1) (State.isArrayOf_alike hZ.alike Ar160.2.1) rfl Ar160.2.2 hin161 hat161 (g := (mkF m 108 (lc2 p1 b2 6) [(.int 6), (.ref b2)])) rfl rfl (hb hby at_108) _ (oastoreN X156 hx hby at_109 (lc3 p1 b2 6 a71) rfl rfl (oiloadN X156 hx hby at_110 rfl (obipush X156 hx hby at_111 k))))))) ?_
  refine own_go (U' := T156.setTop (mkF m 119 (lc3 p1 b2 6 a71) [(.int 10), (.int 6)])) (fun t k => oicN X156 hx hby at_113 (by decide) (oiloadN X156 hx hby at_116 rfl (obipush X156 hx hby at_117 k))) ?_
  have f163 : Exa Z h156 a71 zs0 := (Exa.wr W156 (Exa.wr W145 (Exa.wr W134 (Exa.wr W123 (Exa.wr W112 (Exa.wr W101 (Exa.wr W90 (Exa.wr W79 f76))))))))
  have f164 : Sta Z h156 zs0 "INVALID_JSON" zs1 (.ref a104) := (Sta.wr W156 (Sta.wr W145 (Sta.wr W134 (Sta.wr W123 (Sta.wr W112 f106)))))
  have f166 : Sta Z h156 zs0 "INVALID_TEXT" zs1 (.ref a115) := (Sta.wr W156 (Sta.wr W145 (Sta.wr W134 (Sta.wr W123 f117))))
  have Z_1 : n0 ≤ h2.size := Nat.le_trans Z0 E2.1
  have Z_2 : n0 ≤ h12.size := Nat.le_trans Z_1 (Keep.of_wr W12).1
  have Z_3 : n0 ≤ h24.size := Nat.le_trans Z_2 (Keep.of_wr W24).1
  have Z_4 : n0 ≤ h35.size := Nat.le_trans Z_3 (Keep.of_wr W35).1
  have Z_5 : n0 ≤ h46.size := Nat.le_trans Z_4 (Keep.of_wr W46).1
  have Z_6 : n0 ≤ h57.size := Nat.le_trans Z_5 (Keep.of_wr W57).1
  have Z_7 : n0 ≤ h68.size := Nat.le_trans Z_6 (Keep.of_wr W68).1
  have Z_8 : n0 ≤ h79.size := Nat.le_trans Z_7 (Keep.of_wr W79).1
  have Z_9 : n0 ≤ h90.size := Nat.le_trans Z_8 (Keep.of_wr W90).1
  have Z_10 : n0 ≤ h101.size := Nat.le_trans Z_9 (Keep.of_wr W101).1
  have Z_11 : n0 ≤ h112.size := Nat.le_trans Z_10 (Keep.of_wr W112).1
  have Z_12 : n0 ≤ h123.size := Nat.le_trans Z_11 (Keep.of_wr W123).1
  have Z_13 : n0 ≤ h134.size := Nat.le_trans Z_12 (Keep.of_wr W134).1
  have Z_14 : n0 ≤ h145.size := Nat.le_trans Z_13 (Keep.of_wr W145).1
  have Z_15 : n0 ≤ h156.size := Nat.le_trans Z_14 (Keep.of_wr W156).1
  obtain ⟨_, T162, L162, X162, hQ162, st162⟩ := ocallV X156 hx hZ zm0 zm0 hown (ww hw 33 rfl) (ww hw 34 rfl) (notFace_of_selects (args := #[]) (mvT hZ (ww hw 36 rfl))) (ww hw 36 rfl) (ww hw 35 rfl) (by decide) (ww hw 37 rfl) (ww hw 3 rfl) e156 f163 (rm1_0 l Z a0 hw [] a71 a104 a115 h156 n0 Z_15 f164 ha165 f166 ha167) (st := [(.ref a71)]) rfl 0 rfl (by decide) (pc := 130) (Ls := (lc4 p1 b2 6 a71 0)) hml rfl (lenOf pd_0 rfl) at_130 hby
  obtain ⟨rfl, N162q, e162⟩ := hQ162
  have N168 := Fr.app N157 N162q
  refine own_go (U' := T162.setTop (mkF m 135 (lc4 p1 b2 6 a71 0) [(.int 0), (.int 0)])) (fun t k => oicY (pc := 119) X156 hx hby at_119 126 (by decide) (by decide) (oiconst X156 hx hby at_126 (oistore X156 hx hby at_127 (lc4 p1 b2 6 a71 0) rfl (oaloadN X156 hx hby at_129 rfl rfl (st162 _ (oiload X162 hx hby at_133 rfl k)))))) ?_
  refine own_go (U' := T162.setTop (mkF m 143 (lc4 p1 b2 6 a71 0) [(.int 1)])) (fun t k => oicN X162 hx hby at_135 (by decide) (oiconst X162 hx hby at_138 (ogoto (pc := 139) X162 hx hby at_139 143 (by decide) k))) ?_
  obtain ⟨fs, hr, hrun, hended, hW, hsame⟩ := X162.leave (v := some (.int 1)) (fun h => by rw [Bd.returns] at h; cases h)
  refine own_out ⟨_, _, ?_, hrun, hended, _, _, rfl, ?_, ⟨_, rfl⟩, hW, hsame.mono (by decide) (by decide)⟩
  · exact retN X162 hx (t := .boolean) Bd.returns (by simp) (hb hby at_143) hr
  · exact ⟨rfl, N168⟩
set_option maxRecDepth 65536 in
set_option maxHeartbeats 40000000 in
theorem rm0_8 (l : Launch) (Z : State) (a0 : Array Value) (hw : ∀ d ∈ tables_1, d.before a0 Z = true) (ws : List Jvm.Cond) (p1 : Int32) (a4 : Addr) (a16 : Addr) (a27 : Addr) (a38 : Addr) (a49 : Addr) (a60 : Addr) (a71 : Addr) (a82 : Addr) (a93 : Addr) (a104 : Addr) (a115 : Addr) (a126 : Addr) (a137 : Addr) (a148 : Addr) (h0 : Heap) (n0 : Nat) (Z0 : n0 ≤ h0.size) (F5 : Sta Z h0 zs0 zs2 zs1 (.ref a4)) (F8 : Exa Z h0 a4 zs0) (F17 : Sta Z h0 zs0 zs3 zs1 (.ref a16)) (F20 : Exa Z h0 a16 zs0) (F28 : Sta Z h0 zs0 zs4 zs1 (.ref a27)) (F31 : Exa Z h0 a27 zs0) (F39 : Sta Z h0 zs0 zs5 zs1 (.ref a38)) (F42 : Exa Z h0 a38 zs0) (F50 : Sta Z h0 zs0 zs6 zs1 (.ref a49)) (F53 : Exa Z h0 a49 zs0) (F61 : Sta Z h0 zs0 zs7 zs1 (.ref a60)) (F64 : Exa Z h0 a60 zs0) (F72 : Sta Z h0 zs0 zs8 zs1 (.ref a71)) (F75 : Exa Z h0 a71 zs0) (F83 : Sta Z h0 zs0 zs9 zs1 (.ref a82)) (F86 : Exa Z h0 a82 zs0) (F94 : Sta Z h0 zs0 zs10 zs1 (.ref a93)) (F97 : Exa Z h0 a93 zs0) (F105 : Sta Z h0 zs0 "INVALID_JSON" zs1 (.ref a104)) (F108 : Exa Z h0 a104 zs0) (F116 : Sta Z h0 zs0 "INVALID_TEXT" zs1 (.ref a115)) (F119 : Exa Z h0 a115 zs0) (F127 : Sta Z h0 zs0 zs11 zs1 (.ref a126)) (F130 : Exa Z h0 a126 zs0) (F138 : Sta Z h0 zs0 zs12 zs1 (.ref a137)) (F141 : Exa Z h0 a137 zs0) (F149 : Sta Z h0 zs0 "UNKNOWN_ITEM" zs1 (.ref a148)) (F152 : Exa Z h0 a148 zs0) (hv159 : ((p1 &&& (2147483647 : Int32)) % (14 : Int32)) = (7 : Int32)) (ha165 : a82 ≠ a104) (ha167 : a82 ≠ a115) :
    MetFree l x (head1 (Jvm.Cond.code x code maxLocals ret :: ws) room_1) (fun a U => a = #[(.int p1)] ∧ Z.Warmed39 U.vm ∧ U.heap = h0) (fun _ _ _ _ _ => True) (fun _ U o U' => ∃ v L, o = .returned v ∧ QLaw n0 v U'.heap L ∧ FrameEnd U o U' L room_1.cells room_1.slots) := by
  refine MetFree.of_bodySF (plainFor_of_name pn_com_example_strict_ledger_strictledger_RefusalCodeIsAboutTextPinLaw) hisR ?_
  intro p e s m args below meth c s₁ Bd hml0 hP hK
  obtain ⟨rfl, hZ, hh⟩ := hP
  have hx := Bd.exec
  have hby := Bd.bytes
  have hml : c.maxLocals = 5 := hml0
  have hown : s.vm.findClass zs13 = some m.cls := findClass_of_methodNamed Bd.named
  have hnm := (name_of_methodNamed Bd.named Bd.method).1
  have X0 : Stand p l e room_1 s m #[(.int p1)] below meth c s₁ [] 0 0 := Stand.of_body Bd
  have e0 : s₁.heap = h0 := by rw [← hh, Bd.state]; rfl
  have N0 := Fr.nil n0
  refine own_pre (g' := mkF m 0 (lc0 p1) []) (ef_1 m p1) ?_
  obtain ⟨T2, h2, k2, X2, e2, E2, A2, B2, O2, st2⟩ := newRE X0 hx hZ hown (ww hw 0 rfl) (ww hw 1 rfl) e0 (g := (mkF m 2 (lc0 p1) [(.int 14)])) rfl (hb hby at_2) rfl (by decide) (cap := 14) (by decide) (by decide) (by decide) (by decide) (ad := zs14) (by decide)
  obtain ⟨b2, g2⟩ : ∃ z, z = h0.size := ⟨_, rfl⟩
  rw [← g2] at A2 B2 st2
  have f3 : Arv Z h2 b2 k2 (.object zs0) (14 : Int32) [] .null := Arv.new A2 (by decide)
  have f6 : Sta Z h2 zs0 zs2 zs1 (.ref a4) := (Sta.ext E2 F5)
  obtain ⟨T7, X7, e7, st7⟩ := getS2 X2 hx hZ hown (host := "") (Or.inl (ww hw 2 rfl)) Via.refl e2 f6 (g := (mkF m 7 (lc0 p1) [(.int 0), (.ref b2), (.ref b2)])) rfl (hb hby at_7)
  have f9 : Exa Z h2 a4 zs0 := (Exa.ext E2 F8)
  have f10 : Arv Z h2 b2 k2 (.object zs0) (14 : Int32) [.null] .null := f3.pad (pad_rep [] .null 1)
  obtain ⟨cl11, Ar11, q11, S11, N11, H11, G11⟩ := id f10
  have g13 : n0 ≤ b2 := Nat.le_trans Z0 (Nat.le_of_eq g2.symm)
  have hin12 : ¬ ((0 : Int32) < 0 ∨ cl11.slots.size ≤ ((0 : Int32)).toNatClampNeg) := inb_of S11 ⟨by decide, by decide⟩
  obtain ⟨T12, h12, X12, e12, W12, st12⟩ := stR X7 hx hZ e7 Ar11 (j := (0 : Int32)) hin12 rfl (Sto.ofV Ar11 q11 O2 (Ins.self f9)) (g := (mkF m 10 (lc0 p1) [(.ref a4), (.int 0), (.ref b2), (.ref b2)])) rfl rfl (hb hby at_10)
  have N14 := Fr.snoc X12 N0 g13
  have f15 : Arv Z h12 b2 k2 (.object zs0) (14 : Int32) [(.ref a4)] .null := Arv.set Ar11 q11 S11 N11 H11 G11 (by rfl) W12 0 rfl (Nat.le_of_ble_eq_true rfl)
  have f18 : Sta Z h12 zs0 zs3 zs1 (.ref a16) := (Sta.wr W12 (Sta.ext E2 F17))
  obtain ⟨T19, X19, e19, st19⟩ := getS2 X12 hx hZ hown (host := "") (Or.inl (ww hw 6 rfl)) Via.refl e12 f18 (g := (mkF m 13 (lc0 p1) [(.int 1), (.ref b2), (.ref b2)])) rfl (hb hby at_13)
  have f21 : Exa Z h12 a16 zs0 := (Exa.wr W12 (Exa.ext E2 F20))
  have f22 : Arv Z h12 b2 k2 (.object zs0) (14 : Int32) [(.ref a4), .null] .null := f15.pad (pad_rep [(.ref a4)] .null 1)
  obtain ⟨cl23, Ar23, q23, S23, N23, H23, G23⟩ := id f22
  have hin24 : ¬ ((1 : Int32) < 0 ∨ cl23.slots.size ≤ ((1 : Int32)).toNatClampNeg) := inb_of S23 ⟨by decide, by decide⟩
  obtain ⟨T24, h24, X24, e24, W24, st24⟩ := stR X19 hx hZ e19 Ar23 (j := (1 : Int32)) hin24 rfl (Sto.ofV Ar23 q23 O2 (Ins.self f21)) (g := (mkF m 16 (lc0 p1) [(.ref a16), (.int 1), (.ref b2), (.ref b2)])) rfl rfl (hb hby at_16)
  have N25 := Fr.snoc X24 N14 g13
  have f26 : Arv Z h24 b2 k2 (.object zs0) (14 : Int32) [(.ref a4), (.ref a16)] .null := Arv.set Ar23 q23 S23 N23 H23 G23 (by rfl) W24 1 rfl (Nat.le_of_ble_eq_true rfl)
  have f29 : Sta Z h24 zs0 zs4 zs1 (.ref a27) := (Sta.wr W24 (Sta.wr W12 (Sta.ext E2 F28)))
  obtain ⟨T30, X30, e30, st30⟩ := getS2 X24 hx hZ hown (host := "") (Or.inl (ww hw 8 rfl)) Via.refl e24 f29 (g := (mkF m 19 (lc0 p1) [(.int 2), (.ref b2), (.ref b2)])) rfl (hb hby at_19)
  have f32 : Exa Z h24 a27 zs0 := (Exa.wr W24 (Exa.wr W12 (Exa.ext E2 F31)))
  have f33 : Arv Z h24 b2 k2 (.object zs0) (14 : Int32) [(.ref a4), (.ref a16), .null] .null := f26.pad (pad_rep [(.ref a4), (.ref a16)] .null 1)
  obtain ⟨cl34, Ar34, q34, S34, N34, H34, G34⟩ := id f33
  have hin35 : ¬ ((2 : Int32) < 0 ∨ cl34.slots.size ≤ ((2 : Int32)).toNatClampNeg) := inb_of S34 ⟨by decide, by decide⟩
  obtain ⟨T35, h35, X35, e35, W35, st35⟩ := stR X30 hx hZ e30 Ar34 (j := (2 : Int32)) hin35 rfl (Sto.ofV Ar34 q34 O2 (Ins.self f32)) (g := (mkF m 22 (lc0 p1) [(.ref a27), (.int 2), (.ref b2), (.ref b2)])) rfl rfl (hb hby at_22)
  have N36 := Fr.snoc X35 N25 g13
  have f37 : Arv Z h35 b2 k2 (.object zs0) (14 : Int32) [(.ref a4), (.ref a16), (.ref a27)] .null := Arv.set Ar34 q34 S34 N34 H34 G34 (by rfl) W35 2 rfl (Nat.le_of_ble_eq_true rfl)
  have f40 : Sta Z h35 zs0 zs5 zs1 (.ref a38) := (Sta.wr W35 (Sta.wr W24 (Sta.wr W12 (Sta.ext E2 F39))))
  obtain ⟨T41, X41, e41, st41⟩ := getS2 X35 hx hZ hown (host := "") (Or.inl (ww hw 10 rfl)) Via.refl e35 f40 (g := (mkF m 25 (lc0 p1) [(.int 3), (.ref b2), (.ref b2)])) rfl (hb hby at_25)
  have f43 : Exa Z h35 a38 zs0 := (Exa.wr W35 (Exa.wr W24 (Exa.wr W12 (Exa.ext E2 F42))))
  have f44 : Arv Z h35 b2 k2 (.object zs0) (14 : Int32) [(.ref a4), (.ref a16), (.ref a27), .null] .null := f37.pad (pad_rep [(.ref a4), (.ref a16), (.ref a27)] .null 1)
  obtain ⟨cl45, Ar45, q45, S45, N45, H45, G45⟩ := id f44
  have hin46 : ¬ ((3 : Int32) < 0 ∨ cl45.slots.size ≤ ((3 : Int32)).toNatClampNeg) := inb_of S45 ⟨by decide, by decide⟩
  obtain ⟨T46, h46, X46, e46, W46, st46⟩ := stR X41 hx hZ e41 Ar45 (j := (3 : Int32)) hin46 rfl (Sto.ofV Ar45 q45 O2 (Ins.self f43)) (g := (mkF m 28 (lc0 p1) [(.ref a38), (.int 3), (.ref b2), (.ref b2)])) rfl rfl (hb hby at_28)
  have N47 := Fr.snoc X46 N36 g13
  have f48 : Arv Z h46 b2 k2 (.object zs0) (14 : Int32) [(.ref a4), (.ref a16), (.ref a27), (.ref a38)] .null := Arv.set Ar45 q45 S45 N45 H45 G45 (by rfl) W46 3 rfl (Nat.le_of_ble_eq_true rfl)
  have f51 : Sta Z h46 zs0 zs6 zs1 (.ref a49) := (Sta.wr W46 (Sta.wr W35 (Sta.wr W24 (Sta.wr W12 (Sta.ext E2 F50)))))
  obtain ⟨T52, X52, e52, st52⟩ := getS2 X46 hx hZ hown (host := "") (Or.inl (ww hw 12 rfl)) Via.refl e46 f51 (g := (mkF m 31 (lc0 p1) [(.int 4), (.ref b2), (.ref b2)])) rfl (hb hby at_31)
  have f54 : Exa Z h46 a49 zs0 := (Exa.wr W46 (Exa.wr W35 (Exa.wr W24 (Exa.wr W12 (Exa.ext E2 F53)))))
  have f55 : Arv Z h46 b2 k2 (.object zs0) (14 : Int32) [(.ref a4), (.ref a16), (.ref a27), (.ref a38), .null] .null := f48.pad (pad_rep [(.ref a4), (.ref a16), (.ref a27), (.ref a38)] .null 1)
  obtain ⟨cl56, Ar56, q56, S56, N56, H56, G56⟩ := id f55
  have hin57 : ¬ ((4 : Int32) < 0 ∨ cl56.slots.size ≤ ((4 : Int32)).toNatClampNeg) := inb_of S56 ⟨by decide, by decide⟩
  obtain ⟨T57, h57, X57, e57, W57, st57⟩ := stR X52 hx hZ e52 Ar56 (j := (4 : Int32)) hin57 rfl (Sto.ofV Ar56 q56 O2 (Ins.self f54)) (g := (mkF m 34 (lc0 p1) [(.ref a49), (.int 4), (.ref b2), (.ref b2)])) rfl rfl (hb hby at_34)
  have N58 := Fr.snoc X57 N47 g13
  have f59 : Arv Z h57 b2 k2 (.object zs0) (14 : Int32) [(.ref a4), (.ref a16), (.ref a27), (.ref a38), (.ref a49)] .null := Arv.set Ar56 q56 S56 N56 H56 G56 (by rfl) W57 4 rfl (Nat.le_of_ble_eq_true rfl)
  have f62 : Sta Z h57 zs0 zs7 zs1 (.ref a60) := (Sta.wr W57 (Sta.wr W46 (Sta.wr W35 (Sta.wr W24 (Sta.wr W12 (Sta.ext E2 F61))))))
  obtain ⟨T63, X63, e63, st63⟩ := getS2 X57 hx hZ hown (host := "") (Or.inl (ww hw 14 rfl)) Via.refl e57 f62 (g := (mkF m 37 (lc0 p1) [(.int 5), (.ref b2), (.ref b2)])) rfl (hb hby at_37)
  have f65 : Exa Z h57 a60 zs0 := (Exa.wr W57 (Exa.wr W46 (Exa.wr W35 (Exa.wr W24 (Exa.wr W12 (Exa.ext E2 F64))))))
  have f66 : Arv Z h57 b2 k2 (.object zs0) (14 : Int32) [(.ref a4), (.ref a16), (.ref a27), (.ref a38), (.ref a49), .null] .null := f59.pad (pad_rep [(.ref a4), (.ref a16), (.ref a27), (.ref a38), (.ref a49)] .null 1)
  obtain ⟨cl67, Ar67, q67, S67, N67, H67, G67⟩ := id f66
  have hin68 : ¬ ((5 : Int32) < 0 ∨ cl67.slots.size ≤ ((5 : Int32)).toNatClampNeg) := inb_of S67 ⟨by decide, by decide⟩
  obtain ⟨T68, h68, X68, e68, W68, st68⟩ := stR X63 hx hZ e63 Ar67 (j := (5 : Int32)) hin68 rfl (Sto.ofV Ar67 q67 O2 (Ins.self f65)) (g := (mkF m 40 (lc0 p1) [(.ref a60), (.int 5), (.ref b2), (.ref b2)])) rfl rfl (hb hby at_40)
  have N69 := Fr.snoc X68 N58 g13
  have f70 : Arv Z h68 b2 k2 (.object zs0) (14 : Int32) [(.ref a4), (.ref a16), (.ref a27), (.ref a38), (.ref a49), (.ref a60)] .null := Arv.set Ar67 q67 S67 N67 H67 G67 (by rfl) W68 5 rfl (Nat.le_of_ble_eq_true rfl)
  have f73 : Sta Z h68 zs0 zs8 zs1 (.ref a71) := (Sta.wr W68 (Sta.wr W57 (Sta.wr W46 (Sta.wr W35 (Sta.wr W24 (Sta.wr W12 (Sta.ext E2 F72)))))))
  obtain ⟨T74, X74, e74, st74⟩ := getS2 X68 hx hZ hown (host := "") (Or.inl (ww hw 16 rfl)) Via.refl e68 f73 (g := (mkF m 44 (lc0 p1) [(.int 6), (.ref b2), (.ref b2)])) rfl (hb hby at_44)
  have f76 : Exa Z h68 a71 zs0 := (Exa.wr W68 (Exa.wr W57 (Exa.wr W46 (Exa.wr W35 (Exa.wr W24 (Exa.wr W12 (Exa.ext E2 F75)))))))
  have f77 : Arv Z h68 b2 k2 (.object zs0) (14 : Int32) [(.ref a4), (.ref a16), (.ref a27), (.ref a38), (.ref a49), (.ref a60), .null] .null := f70.pad (pad_rep [(.ref a4), (.ref a16), (.ref a27), (.ref a38), (.ref a49), (.ref a60)] .null 1)
  obtain ⟨cl78, Ar78, q78, S78, N78, H78, G78⟩ := id f77
  have hin79 : ¬ ((6 : Int32) < 0 ∨ cl78.slots.size ≤ ((6 : Int32)).toNatClampNeg) := inb_of S78 ⟨by decide, by decide⟩
  obtain ⟨T79, h79, X79, e79, W79, st79⟩ := stR X74 hx hZ e74 Ar78 (j := (6 : Int32)) hin79 rfl (Sto.ofV Ar78 q78 O2 (Ins.self f76)) (g := (mkF m 47 (lc0 p1) [(.ref a71), (.int 6), (.ref b2), (.ref b2)])) rfl rfl (hb hby at_47)
  have N80 := Fr.snoc X79 N69 g13
  have f81 : Arv Z h79 b2 k2 (.object zs0) (14 : Int32) [(.ref a4), (.ref a16), (.ref a27), (.ref a38), (.ref a49), (.ref a60), (.ref a71)] .null := Arv.set Ar78 q78 S78 N78 H78 G78 (by rfl) W79 6 rfl (Nat.le_of_ble_eq_true rfl)
  have f84 : Sta Z h79 zs0 zs9 zs1 (.ref a82) := (Sta.wr W79 (Sta.wr W68 (Sta.wr W57 (Sta.wr W46 (Sta.wr W35 (Sta.wr W24 (Sta.wr W12 (Sta.ext E2 F83))))))))
  obtain ⟨T85, X85, e85, st85⟩ := getS2 X79 hx hZ hown (host := "") (Or.inl (ww hw 18 rfl)) Via.refl e79 f84 (g := (mkF m 51 (lc0 p1) [(.int 7), (.ref b2), (.ref b2)])) rfl (hb hby at_51)
  have f87 : Exa Z h79 a82 zs0 := (Exa.wr W79 (Exa.wr W68 (Exa.wr W57 (Exa.wr W46 (Exa.wr W35 (Exa.wr W24 (Exa.wr W12 (Exa.ext E2 F86))))))))
  have f88 : Arv Z h79 b2 k2 (.object zs0) (14 : Int32) [(.ref a4), (.ref a16), (.ref a27), (.ref a38), (.ref a49), (.ref a60), (.ref a71), .null] .null := f81.pad (pad_rep [(.ref a4), (.ref a16), (.ref a27), (.ref a38), (.ref a49), (.ref a60), (.ref a71)] .null 1)
  obtain ⟨cl89, Ar89, q89, S89, N89, H89, G89⟩ := id f88
  have hin90 : ¬ ((7 : Int32) < 0 ∨ cl89.slots.size ≤ ((7 : Int32)).toNatClampNeg) := inb_of S89 ⟨by decide, by decide⟩
  obtain ⟨T90, h90, X90, e90, W90, st90⟩ := stR X85 hx hZ e85 Ar89 (j := (7 : Int32)) hin90 rfl (Sto.ofV Ar89 q89 O2 (Ins.self f87)) (g := (mkF m 54 (lc0 p1) [(.ref a82), (.int 7), (.ref b2), (.ref b2)])) rfl rfl (hb hby at_54)
  have N91 := Fr.snoc X90 N80 g13
  have f92 : Arv Z h90 b2 k2 (.object zs0) (14 : Int32) [(.ref a4), (.ref a16), (.ref a27), (.ref a38), (.ref a49), (.ref a60), (.ref a71), (.ref a82)] .null := Arv.set Ar89 q89 S89 N89 H89 G89 (by rfl) W90 7 rfl (Nat.le_of_ble_eq_true rfl)
  have f95 : Sta Z h90 zs0 zs10 zs1 (.ref a93) := (Sta.wr W90 (Sta.wr W79 (Sta.wr W68 (Sta.wr W57 (Sta.wr W46 (Sta.wr W35 (Sta.wr W24 (Sta.wr W12 (Sta.ext E2 F94)))))))))
  obtain ⟨T96, X96, e96, st96⟩ := getS2 X90 hx hZ hown (host := "") (Or.inl (ww hw 20 rfl)) Via.refl e90 f95 (g := (mkF m 58 (lc0 p1) [(.int 8), (.ref b2), (.ref b2)])) rfl (hb hby at_58)
  have f98 : Exa Z h90 a93 zs0 := (Exa.wr W90 (Exa.wr W79 (Exa.wr W68 (Exa.wr W57 (Exa.wr W46 (Exa.wr W35 (Exa.wr W24 (Exa.wr W12 (Exa.ext E2 F97)))))))))
  have f99 : Arv Z h90 b2 k2 (.object zs0) (14 : Int32) [(.ref a4), (.ref a16), (.ref a27), (.ref a38), (.ref a49), (.ref a60), (.ref a71), (.ref a82), .null] .null := f92.pad (pad_rep [(.ref a4), (.ref a16), (.ref a27), (.ref a38), (.ref a49), (.ref a60), (.ref a71), (.ref a82)] .null 1)
  obtain ⟨cl100, Ar100, q100, S100, N100, H100, G100⟩ := id f99
  have hin101 : ¬ ((8 : Int32) < 0 ∨ cl100.slots.size ≤ ((8 : Int32)).toNatClampNeg) := inb_of S100 ⟨by decide, by decide⟩
  obtain ⟨T101, h101, X101, e101, W101, st101⟩ := stR X96 hx hZ e96 Ar100 (j := (8 : Int32)) hin101 rfl (Sto.ofV Ar100 q100 O2 (Ins.self f98)) (g := (mkF m 61 (lc0 p1) [(.ref a93), (.int 8), (.ref b2), (.ref b2)])) rfl rfl (hb hby at_61)
  have N102 := Fr.snoc X101 N91 g13
  have f103 : Arv Z h101 b2 k2 (.object zs0) (14 : Int32) [(.ref a4), (.ref a16), (.ref a27), (.ref a38), (.ref a49), (.ref a60), (.ref a71), (.ref a82), (.ref a93)] .null := Arv.set Ar100 q100 S100 N100 H100 G100 (by rfl) W101 8 rfl (Nat.le_of_ble_eq_true rfl)
  have f106 : Sta Z h101 zs0 "INVALID_JSON" zs1 (.ref a104) := (Sta.wr W101 (Sta.wr W90 (Sta.wr W79 (Sta.wr W68 (Sta.wr W57 (Sta.wr W46 (Sta.wr W35 (Sta.wr W24 (Sta.wr W12 (Sta.ext E2 F105))))))))))
  obtain ⟨T107, X107, e107, st107⟩ := getS2 X101 hx hZ hown (host := "") (Or.inl (ww hw 22 rfl)) Via.refl e101 f106 (g := (mkF m 65 (lc0 p1) [(.int 9), (.ref b2), (.ref b2)])) rfl (hb hby at_65)
  have f109 : Exa Z h101 a104 zs0 := (Exa.wr W101 (Exa.wr W90 (Exa.wr W79 (Exa.wr W68 (Exa.wr W57 (Exa.wr W46 (Exa.wr W35 (Exa.wr W24 (Exa.wr W12 (Exa.ext E2 F108))))))))))
  have f110 : Arv Z h101 b2 k2 (.object zs0) (14 : Int32) [(.ref a4), (.ref a16), (.ref a27), (.ref a38), (.ref a49), (.ref a60), (.ref a71), (.ref a82), (.ref a93), .null] .null := f103.pad (pad_rep [(.ref a4), (.ref a16), (.ref a27), (.ref a38), (.ref a49), (.ref a60), (.ref a71), (.ref a82), (.ref a93)] .null 1)
  obtain ⟨cl111, Ar111, q111, S111, N111, H111, G111⟩ := id f110
  have hin112 : ¬ ((9 : Int32) < 0 ∨ cl111.slots.size ≤ ((9 : Int32)).toNatClampNeg) := inb_of S111 ⟨by decide, by decide⟩
  obtain ⟨T112, h112, X112, e112, W112, st112⟩ := stR X107 hx hZ e107 Ar111 (j := (9 : Int32)) hin112 rfl (Sto.ofV Ar111 q111 O2 (Ins.self f109)) (g := (mkF m 68 (lc0 p1) [(.ref a104), (.int 9), (.ref b2), (.ref b2)])) rfl rfl (hb hby at_68)
  have N113 := Fr.snoc X112 N102 g13
  have f114 : Arv Z h112 b2 k2 (.object zs0) (14 : Int32) [(.ref a4), (.ref a16), (.ref a27), (.ref a38), (.ref a49), (.ref a60), (.ref a71), (.ref a82), (.ref a93), (.ref a104)] .null := Arv.set Ar111 q111 S111 N111 H111 G111 (by rfl) W112 9 rfl (Nat.le_of_ble_eq_true rfl)
  have f117 : Sta Z h112 zs0 "INVALID_TEXT" zs1 (.ref a115) := (Sta.wr W112 (Sta.wr W101 (Sta.wr W90 (Sta.wr W79 (Sta.wr W68 (Sta.wr W57 (Sta.wr W46 (Sta.wr W35 (Sta.wr W24 (Sta.wr W12 (Sta.ext E2 F116)))))))))))
  obtain ⟨T118, X118, e118, st118⟩ := getS2 X112 hx hZ hown (host := "") (Or.inl (ww hw 24 rfl)) Via.refl e112 f117 (g := (mkF m 72 (lc0 p1) [(.int 10), (.ref b2), (.ref b2)])) rfl (hb hby at_72)
  have f120 : Exa Z h112 a115 zs0 := (Exa.wr W112 (Exa.wr W101 (Exa.wr W90 (Exa.wr W79 (Exa.wr W68 (Exa.wr W57 (Exa.wr W46 (Exa.wr W35 (Exa.wr W24 (Exa.wr W12 (Exa.ext E2 F119)))))))))))
  have f121 : Arv Z h112 b2 k2 (.object zs0) (14 : Int32) [(.ref a4), (.ref a16), (.ref a27), (.ref a38), (.ref a49), (.ref a60), (.ref a71), (.ref a82), (.ref a93), (.ref a104), .null] .null := f114.pad (pad_rep [(.ref a4), (.ref a16), (.ref a27), (.ref a38), (.ref a49), (.ref a60), (.ref a71), (.ref a82), (.ref a93), (.ref a104)] .null 1)
  obtain ⟨cl122, Ar122, q122, S122, N122, H122, G122⟩ := id f121
  have hin123 : ¬ ((10 : Int32) < 0 ∨ cl122.slots.size ≤ ((10 : Int32)).toNatClampNeg) := inb_of S122 ⟨by decide, by decide⟩
  obtain ⟨T123, h123, X123, e123, W123, st123⟩ := stR X118 hx hZ e118 Ar122 (j := (10 : Int32)) hin123 rfl (Sto.ofV Ar122 q122 O2 (Ins.self f120)) (g := (mkF m 75 (lc0 p1) [(.ref a115), (.int 10), (.ref b2), (.ref b2)])) rfl rfl (hb hby at_75)
  have N124 := Fr.snoc X123 N113 g13
  have f125 : Arv Z h123 b2 k2 (.object zs0) (14 : Int32) [(.ref a4), (.ref a16), (.ref a27), (.ref a38), (.ref a49), (.ref a60), (.ref a71), (.ref a82), (.ref a93), (.ref a104), (.ref a115)] .null := Arv.set Ar122 q122 S122 N122 H122 G122 (by rfl) W123 10 rfl (Nat.le_of_ble_eq_true rfl)
  have f128 : Sta Z h123 zs0 zs11 zs1 (.ref a126) := (Sta.wr W123 (Sta.wr W112 (Sta.wr W101 (Sta.wr W90 (Sta.wr W79 (Sta.wr W68 (Sta.wr W57 (Sta.wr W46 (Sta.wr W35 (Sta.wr W24 (Sta.wr W12 (Sta.ext E2 F127))))))))))))
  obtain ⟨T129, X129, e129, st129⟩ := getS2 X123 hx hZ hown (host := "") (Or.inl (ww hw 26 rfl)) Via.refl e123 f128 (g := (mkF m 79 (lc0 p1) [(.int 11), (.ref b2), (.ref b2)])) rfl (hb hby at_79)
  have f131 : Exa Z h123 a126 zs0 := (Exa.wr W123 (Exa.wr W112 (Exa.wr W101 (Exa.wr W90 (Exa.wr W79 (Exa.wr W68 (Exa.wr W57 (Exa.wr W46 (Exa.wr W35 (Exa.wr W24 (Exa.wr W12 (Exa.ext E2 F130))))))))))))
  have f132 : Arv Z h123 b2 k2 (.object zs0) (14 : Int32) [(.ref a4), (.ref a16), (.ref a27), (.ref a38), (.ref a49), (.ref a60), (.ref a71), (.ref a82), (.ref a93), (.ref a104), (.ref a115), .null] .null := f125.pad (pad_rep [(.ref a4), (.ref a16), (.ref a27), (.ref a38), (.ref a49), (.ref a60), (.ref a71), (.ref a82), (.ref a93), (.ref a104), (.ref a115)] .null 1)
  obtain ⟨cl133, Ar133, q133, S133, N133, H133, G133⟩ := id f132
  have hin134 : ¬ ((11 : Int32) < 0 ∨ cl133.slots.size ≤ ((11 : Int32)).toNatClampNeg) := inb_of S133 ⟨by decide, by decide⟩
  obtain ⟨T134, h134, X134, e134, W134, st134⟩ := stR X129 hx hZ e129 Ar133 (j := (11 : Int32)) hin134 rfl (Sto.ofV Ar133 q133 O2 (Ins.self f131)) (g := (mkF m 82 (lc0 p1) [(.ref a126), (.int 11), (.ref b2), (.ref b2)])) rfl rfl (hb hby at_82)
  have N135 := Fr.snoc X134 N124 g13
  have f136 : Arv Z h134 b2 k2 (.object zs0) (14 : Int32) [(.ref a4), (.ref a16), (.ref a27), (.ref a38), (.ref a49), (.ref a60), (.ref a71), (.ref a82), (.ref a93), (.ref a104), (.ref a115), (.ref a126)] .null := Arv.set Ar133 q133 S133 N133 H133 G133 (by rfl) W134 11 rfl (Nat.le_of_ble_eq_true rfl)
  have f139 : Sta Z h134 zs0 zs12 zs1 (.ref a137) := (Sta.wr W134 (Sta.wr W123 (Sta.wr W112 (Sta.wr W101 (Sta.wr W90 (Sta.wr W79 (Sta.wr W68 (Sta.wr W57 (Sta.wr W46 (Sta.wr W35 (Sta.wr W24 (Sta.wr W12 (Sta.ext E2 F138)))))))))))))
  obtain ⟨T140, X140, e140, st140⟩ := getS2 X134 hx hZ hown (host := "") (Or.inl (ww hw 28 rfl)) Via.refl e134 f139 (g := (mkF m 86 (lc0 p1) [(.int 12), (.ref b2), (.ref b2)])) rfl (hb hby at_86)
  have f142 : Exa Z h134 a137 zs0 := (Exa.wr W134 (Exa.wr W123 (Exa.wr W112 (Exa.wr W101 (Exa.wr W90 (Exa.wr W79 (Exa.wr W68 (Exa.wr W57 (Exa.wr W46 (Exa.wr W35 (Exa.wr W24 (Exa.wr W12 (Exa.ext E2 F141)))))))))))))
  have f143 : Arv Z h134 b2 k2 (.object zs0) (14 : Int32) [(.ref a4), (.ref a16), (.ref a27), (.ref a38), (.ref a49), (.ref a60), (.ref a71), (.ref a82), (.ref a93), (.ref a104), (.ref a115), (.ref a126), .null] .null := f136.pad (pad_rep [(.ref a4), (.ref a16), (.ref a27), (.ref a38), (.ref a49), (.ref a60), (.ref a71), (.ref a82), (.ref a93), (.ref a104), (.ref a115), (.ref a126)] .null 1)
  obtain ⟨cl144, Ar144, q144, S144, N144, H144, G144⟩ := id f143
  have hin145 : ¬ ((12 : Int32) < 0 ∨ cl144.slots.size ≤ ((12 : Int32)).toNatClampNeg) := inb_of S144 ⟨by decide, by decide⟩
  obtain ⟨T145, h145, X145, e145, W145, st145⟩ := stR X140 hx hZ e140 Ar144 (j := (12 : Int32)) hin145 rfl (Sto.ofV Ar144 q144 O2 (Ins.self f142)) (g := (mkF m 89 (lc0 p1) [(.ref a137), (.int 12), (.ref b2), (.ref b2)])) rfl rfl (hb hby at_89)
  have N146 := Fr.snoc X145 N135 g13
  have f147 : Arv Z h145 b2 k2 (.object zs0) (14 : Int32) [(.ref a4), (.ref a16), (.ref a27), (.ref a38), (.ref a49), (.ref a60), (.ref a71), (.ref a82), (.ref a93), (.ref a104), (.ref a115), (.ref a126), (.ref a137)] .null := Arv.set Ar144 q144 S144 N144 H144 G144 (by rfl) W145 12 rfl (Nat.le_of_ble_eq_true rfl)
  have f150 : Sta Z h145 zs0 "UNKNOWN_ITEM" zs1 (.ref a148) := (Sta.wr W145 (Sta.wr W134 (Sta.wr W123 (Sta.wr W112 (Sta.wr W101 (Sta.wr W90 (Sta.wr W79 (Sta.wr W68 (Sta.wr W57 (Sta.wr W46 (Sta.wr W35 (Sta.wr W24 (Sta.wr W12 (Sta.ext E2 F149))))))))))))))
  obtain ⟨T151, X151, e151, st151⟩ := getS2 X145 hx hZ hown (host := "") (Or.inl (ww hw 30 rfl)) Via.refl e145 f150 (g := (mkF m 93 (lc0 p1) [(.int 13), (.ref b2), (.ref b2)])) rfl (hb hby at_93)
  have f153 : Exa Z h145 a148 zs0 := (Exa.wr W145 (Exa.wr W134 (Exa.wr W123 (Exa.wr W112 (Exa.wr W101 (Exa.wr W90 (Exa.wr W79 (Exa.wr W68 (Exa.wr W57 (Exa.wr W46 (Exa.wr W35 (Exa.wr W24 (Exa.wr W12 (Exa.ext E2 F152))))))))))))))
  have f154 : Arv Z h145 b2 k2 (.object zs0) (14 : Int32) [(.ref a4), (.ref a16), (.ref a27), (.ref a38), (.ref a49), (.ref a60), (.ref a71), (.ref a82), (.ref a93), (.ref a104), (.ref a115), (.ref a126), (.ref a137), .null] .null := f147.pad (pad_rep [(.ref a4), (.ref a16), (.ref a27), (.ref a38), (.ref a49), (.ref a60), (.ref a71), (.ref a82), (.ref a93), (.ref a104), (.ref a115), (.ref a126), (.ref a137)] .null 1)
  obtain ⟨cl155, Ar155, q155, S155, N155, H155, G155⟩ := id f154
  have hin156 : ¬ ((13 : Int32) < 0 ∨ cl155.slots.size ≤ ((13 : Int32)).toNatClampNeg) := inb_of S155 ⟨by decide, by decide⟩
  obtain ⟨T156, h156, X156, e156, W156, st156⟩ := stR X151 hx hZ e151 Ar155 (j := (13 : Int32)) hin156 rfl (Sto.ofV Ar155 q155 O2 (Ins.self f153)) (g := (mkF m 96 (lc0 p1) [(.ref a148), (.int 13), (.ref b2), (.ref b2)])) rfl rfl (hb hby at_96)
  have N157 := Fr.snoc X156 N146 g13
  have f158 : Arv Z h156 b2 k2 (.object zs0) (14 : Int32) [(.ref a4), (.ref a16), (.ref a27), (.ref a38), (.ref a49), (.ref a60), (.ref a71), (.ref a82), (.ref a93), (.ref a104), (.ref a115), (.ref a126), (.ref a137), (.ref a148)] .null := Arv.set Ar155 q155 S155 N155 H155 G155 (by rfl) W156 13 rfl (Nat.le_of_ble_eq_true rfl)
  refine own_go (U' := T156.setTop (mkF m 105 (lc1 p1 b2) [(.int ((p1 &&& (2147483647 : Int32)) % (14 : Int32)))])) (fun t k => obipush X0 hx hby at_0 (st2 _ (odup X2 hx hby at_5 rfl (oiconst X2 hx hby at_6 (st7 _ (st12 _ (odup X12 hx hby at_11 rfl (oiconst X12 hx hby at_12 (st19 _ (st24 _ (odup X24 hx hby at_17 rfl (oiconst X24 hx hby at_18 (st30 _ (st35 _ (odup X35 hx hby at_23 rfl (oiconst X35 hx hby at_24 (st41 _ (st46 _ (odup X46 hx hby at_29 rfl (oiconst X46 hx hby at_30 (st52 _ (st57 _ (odup X57 hx hby at_35 rfl (oiconst X57 hx hby at_36 (st63 _ (st68 _ (odup X68 hx hby at_41 rfl (obipush X68 hx hby at_42 (st74 _ (st79 _ (odup X79 hx hby at_48 rfl (obipush X79 hx hby at_49 (st85 _ (st90 _ (odup X90 hx hby at_55 rfl (obipush X90 hx hby at_56 (st96 _ (st101 _ (odup X101 hx hby at_62 rfl (obipush X101 hx hby at_63 (st107 _ (st112 _ (odup X112 hx hby at_69 rfl (obipush X112 hx hby at_70 (st118 _ (st123 _ (odup X123 hx hby at_76 rfl (obipush X123 hx hby at_77 (st129 _ (st134 _ (odup X134 hx hby at_83 rfl (obipush X134 hx hby at_84 (st140 _ (st145 _ (odup X145 hx hby at_90 rfl (obipush X145 hx hby at_91 (st151 _ (st156 _ (oastoreN X156 hx hby at_97 (lc1 p1 b2) rfl rfl (oiloadN X156 hx hby at_98 rfl (X156.ldcInt hx hown (mvT hZ (ww hw 32 rfl)) (g := (mkF m 99 (lc1 p1 b2) [(.int p1)])) rfl (hb hby at_99) _ (oiand X156 hx hby at_101 (obipush X156 hx hby at_102 (oirem X156 hx hby at_104 (by decide) k)))))))))))))))))))))))))))))))))))))))))))))))))))))))))))))))) ?_
  rw [hv159]
  obtain ⟨cl160, Ar160, q160, S160, N160, H160, G160⟩ := id f158
  have hin161 : ¬ ((7 : Int32) < 0 ∨ cl160.slots.size ≤ ((7 : Int32)).toNatClampNeg) := inb_of S160 ⟨by decide, by decide⟩
  have hat161 : cl160.slots[((7 : Int32)).toNatClampNeg]? = some (.ref a82) := Has.at H160 hin161 rfl
  refine own_go (U' := T156.setTop (mkF m 113 (lc3 p1 b2 7 a82) [(.int 9), (.int 7)])) (fun t k => oistoreN X156 hx hby at_105 (lc2 p1 b2 7) rfl (oaloadN X156 hx hby at_106 rfl rfl (oiloadN X156 hx hby at_107 rfl (X156.aaload hx (j := (7 : Int32)) (v := (.ref a82)) (by rw [e156]; exact Ar160.1) (State.isArrayOf_alike hZ.alike Ar160.2.1) rfl Ar160.2.2 hin161 hat161 (g := (mkF m 108 (lc2 p1 b2 7) [(.int 7), (.ref b2)])) rfl rfl (hb hby at_108) _ (oastoreN X156 hx hby at_109 (lc3 p1 b2 7 a82) rfl rfl (oiloadN X156 hx hby at_110 rfl (obipush X156 hx hby at_111 k))))))) ?_
  refine own_go (U' := T156.setTop (mkF m 119 (lc3 p1 b2 7 a82) [(.int 10), (.int 7)])) (fun t k => oicN X156 hx hby at_113 (by decide) (oiloadN X156 hx hby at_116 rfl (obipush X156 hx hby at_117 k))) ?_
  have f163 : Exa Z h156 a82 zs0 := (Exa.wr W156 (Exa.wr W145 (Exa.wr W134 (Exa.wr W123 (Exa.wr W112 (Exa.wr W101 (Exa.wr W90 f87)))))))
  have f164 : Sta Z h156 zs0 "INVALID_JSON" zs1 (.ref a104) := (Sta.wr W156 (Sta.wr W145 (Sta.wr W134 (Sta.wr W123 (Sta.wr W112 f106)))))
  have f166 : Sta Z h156 zs0 "INVALID_TEXT" zs1 (.ref a115) := (Sta.wr W156 (Sta.wr W145 (Sta.wr W134 (Sta.wr W123 f117))))
  have Z_1 : n0 ≤ h2.size := Nat.le_trans Z0 E2.1
  have Z_2 : n0 ≤ h12.size := Nat.le_trans Z_1 (Keep.of_wr W12).1
  have Z_3 : n0 ≤ h24.size := Nat.le_trans Z_2 (Keep.of_wr W24).1
  have Z_4 : n0 ≤ h35.size := Nat.le_trans Z_3 (Keep.of_wr W35).1
  have Z_5 : n0 ≤ h46.size := Nat.le_trans Z_4 (Keep.of_wr W46).1
  have Z_6 : n0 ≤ h57.size := Nat.le_trans Z_5 (Keep.of_wr W57).1
  have Z_7 : n0 ≤ h68.size := Nat.le_trans Z_6 (Keep.of_wr W68).1
  have Z_8 : n0 ≤ h79.size := Nat.le_trans Z_7 (Keep.of_wr W79).1
  have Z_9 : n0 ≤ h90.size := Nat.le_trans Z_8 (Keep.of_wr W90).1
  have Z_10 : n0 ≤ h101.size := Nat.le_trans Z_9 (Keep.of_wr W101).1
  have Z_11 : n0 ≤ h112.size := Nat.le_trans Z_10 (Keep.of_wr W112).1
  have Z_12 : n0 ≤ h123.size := Nat.le_trans Z_11 (Keep.of_wr W123).1
  have Z_13 : n0 ≤ h134.size := Nat.le_trans Z_12 (Keep.of_wr W134).1
  have Z_14 : n0 ≤ h145.size := Nat.le_trans Z_13 (Keep.of_wr W145).1
  have Z_15 : n0 ≤ h156.size := Nat.le_trans Z_14 (Keep.of_wr W156).1
  obtain ⟨_, T162, L162, X162, hQ162, st162⟩ := ocallV X156 hx hZ zm0 zm0 hown (ww hw 33 rfl) (ww hw 34 rfl) (notFace_of_selects (args := #[]) (mvT hZ (ww hw 36 rfl))) (ww hw 36 rfl) (ww hw 35 rfl) (by decide) (ww hw 37 rfl) (ww hw 3 rfl) e156 f163 (rm1_0 l Z a0 hw [] a82 a104 a115 h156 n0 Z_15 f164 ha165 f166 ha167) (st := [(.ref a82)]) rfl 0 rfl (by decide) (pc := 130) (Ls := (lc4 p1 b2 7 a82 0)) hml rfl (lenOf pd_0 rfl) at_130 hby
  obtain ⟨rfl, N162q, e162⟩ := hQ162
  have N168 := Fr.app N157 N162q
  refine own_go (U' := T162.setTop (mkF m 135 (lc4 p1 b2 7 a82 0) [(.int 0), (.int 0)])) (fun t k => oicY (pc := 119) X156 hx hby at_119 126 (by decide) (by decide) (oiconst X156 hx hby at_126 (oistore X156 hx hby at_127 (lc4 p1 b2 7 a82 0) rfl (oaloadN X156 hx hby at_129 rfl rfl (st162 _ (oiload X162 hx hby at_133 rfl k)))))) ?_
  refine own_go (U' := T162.setTop (mkF m 143 (lc4 p1 b2 7 a82 0) [(.int 1)])) (fun t k => oicN X162 hx hby at_135 (by decide) (oiconst X162 hx hby at_138 (ogoto (pc := 139) X162 hx hby at_139 143 (by decide) k))) ?_
  obtain ⟨fs, hr, hrun, hended, hW, hsame⟩ := X162.leave (v := some (.int 1)) (fun h => by rw [Bd.returns] at h; cases h)
  refine own_out ⟨_, _, ?_, hrun, hended, _, _, rfl, ?_, ⟨_, rfl⟩, hW, hsame.mono (by decide) (by decide)⟩
  · exact retN X162 hx (t := .boolean) Bd.returns (by simp) (hb hby at_143) hr
  · exact ⟨rfl, N168⟩
set_option maxRecDepth 65536 in
set_option maxHeartbeats 40000000 in
theorem rm0_9 (l : Launch) (Z : State) (a0 : Array Value) (hw : ∀ d ∈ tables_1, d.before a0 Z = true) (ws : List Jvm.Cond) (p1 : Int32) (a4 : Addr) (a16 : Addr) (a27 : Addr) (a38 : Addr) (a49 : Addr) (a60 : Addr) (a71 : Addr) (a82 : Addr) (a93 : Addr) (a104 : Addr) (a115 : Addr) (a126 : Addr) (a137 : Addr) (a148 : Addr) (h0 : Heap) (n0 : Nat) (Z0 : n0 ≤ h0.size) (F5 : Sta Z h0 zs0 zs2 zs1 (.ref a4)) (F8 : Exa Z h0 a4 zs0) (F17 : Sta Z h0 zs0 zs3 zs1 (.ref a16)) (F20 : Exa Z h0 a16 zs0) (F28 : Sta Z h0 zs0 zs4 zs1 (.ref a27)) (F31 : Exa Z h0 a27 zs0) (F39 : Sta Z h0 zs0 zs5 zs1 (.ref a38)) (F42 : Exa Z h0 a38 zs0) (F50 : Sta Z h0 zs0 zs6 zs1 (.ref a49)) (F53 : Exa Z h0 a49 zs0) (F61 : Sta Z h0 zs0 zs7 zs1 (.ref a60)) (F64 : Exa Z h0 a60 zs0) (F72 : Sta Z h0 zs0 zs8 zs1 (.ref a71)) (F75 : Exa Z h0 a71 zs0) (F83 : Sta Z h0 zs0 zs9 zs1 (.ref a82)) (F86 : Exa Z h0 a82 zs0) (F94 : Sta Z h0 zs0 zs10 zs1 (.ref a93)) (F97 : Exa Z h0 a93 zs0) (F105 : Sta Z h0 zs0 "INVALID_JSON" zs1 (.ref a104)) (F108 : Exa Z h0 a104 zs0) (F116 : Sta Z h0 zs0 "INVALID_TEXT" zs1 (.ref a115)) (F119 : Exa Z h0 a115 zs0) (F127 : Sta Z h0 zs0 zs11 zs1 (.ref a126)) (F130 : Exa Z h0 a126 zs0) (F138 : Sta Z h0 zs0 zs12 zs1 (.ref a137)) (F141 : Exa Z h0 a137 zs0) (F149 : Sta Z h0 zs0 "UNKNOWN_ITEM" zs1 (.ref a148)) (F152 : Exa Z h0 a148 zs0) (hv159 : ((p1 &&& (2147483647 : Int32)) % (14 : Int32)) = (8 : Int32)) (ha165 : a93 ≠ a104) (ha167 : a93 ≠ a115) :
    MetFree l x (head1 (Jvm.Cond.code x code maxLocals ret :: ws) room_1) (fun a U => a = #[(.int p1)] ∧ Z.Warmed39 U.vm ∧ U.heap = h0) (fun _ _ _ _ _ => True) (fun _ U o U' => ∃ v L, o = .returned v ∧ QLaw n0 v U'.heap L ∧ FrameEnd U o U' L room_1.cells room_1.slots) := by
  refine MetFree.of_bodySF (plainFor_of_name pn_com_example_strict_ledger_strictledger_RefusalCodeIsAboutTextPinLaw) hisR ?_
  intro p e s m args below meth c s₁ Bd hml0 hP hK
  obtain ⟨rfl, hZ, hh⟩ := hP
  have hx := Bd.exec
  have hby := Bd.bytes
  have hml : c.maxLocals = 5 := hml0
  have hown : s.vm.findClass zs13 = some m.cls := findClass_of_methodNamed Bd.named
  have hnm := (name_of_methodNamed Bd.named Bd.method).1
  have X0 : Stand p l e room_1 s m #[(.int p1)] below meth c s₁ [] 0 0 := Stand.of_body Bd
  have e0 : s₁.heap = h0 := by rw [← hh, Bd.state]; rfl
  have N0 := Fr.nil n0
  refine own_pre (g' := mkF m 0 (lc0 p1) []) (ef_1 m p1) ?_
  obtain ⟨T2, h2, k2, X2, e2, E2, A2, B2, O2, st2⟩ := newRE X0 hx hZ hown (ww hw 0 rfl) (ww hw 1 rfl) e0 (g := (mkF m 2 (lc0 p1) [(.int 14)])) rfl (hb hby at_2) rfl (by decide) (cap := 14) (by decide) (by decide) (by decide) (by decide) (ad := zs14) (by decide)
  obtain ⟨b2, g2⟩ : ∃ z, z = h0.size := ⟨_, rfl⟩
  rw [← g2] at A2 B2 st2
  have f3 : Arv Z h2 b2 k2 (.object zs0) (14 : Int32) [] .null := Arv.new A2 (by decide)
  have f6 : Sta Z h2 zs0 zs2 zs1 (.ref a4) := (Sta.ext E2 F5)
  obtain ⟨T7, X7, e7, st7⟩ := getS2 X2 hx hZ hown (host := "") (Or.inl (ww hw 2 rfl)) Via.refl e2 f6 (g := (mkF m 7 (lc0 p1) [(.int 0), (.ref b2), (.ref b2)])) rfl (hb hby at_7)
  have f9 : Exa Z h2 a4 zs0 := (Exa.ext E2 F8)
  have f10 : Arv Z h2 b2 k2 (.object zs0) (14 : Int32) [.null] .null := f3.pad (pad_rep [] .null 1)
  obtain ⟨cl11, Ar11, q11, S11, N11, H11, G11⟩ := id f10
  have g13 : n0 ≤ b2 := Nat.le_trans Z0 (Nat.le_of_eq g2.symm)
  have hin12 : ¬ ((0 : Int32) < 0 ∨ cl11.slots.size ≤ ((0 : Int32)).toNatClampNeg) := inb_of S11 ⟨by decide, by decide⟩
  obtain ⟨T12, h12, X12, e12, W12, st12⟩ := stR X7 hx hZ e7 Ar11 (j := (0 : Int32)) hin12 rfl (Sto.ofV Ar11 q11 O2 (Ins.self f9)) (g := (mkF m 10 (lc0 p1) [(.ref a4), (.int 0), (.ref b2), (.ref b2)])) rfl rfl (hb hby at_10)
  have N14 := Fr.snoc X12 N0 g13
  have f15 : Arv Z h12 b2 k2 (.object zs0) (14 : Int32) [(.ref a4)] .null := Arv.set Ar11 q11 S11 N11 H11 G11 (by rfl) W12 0 rfl (Nat.le_of_ble_eq_true rfl)
  have f18 : Sta Z h12 zs0 zs3 zs1 (.ref a16) := (Sta.wr W12 (Sta.ext E2 F17))
  obtain ⟨T19, X19, e19, st19⟩ := getS2 X12 hx hZ hown (host := "") (Or.inl (ww hw 6 rfl)) Via.refl e12 f18 (g := (mkF m 13 (lc0 p1) [(.int 1), (.ref b2), (.ref b2)])) rfl (hb hby at_13)
  have f21 : Exa Z h12 a16 zs0 := (Exa.wr W12 (Exa.ext E2 F20))
  have f22 : Arv Z h12 b2 k2 (.object zs0) (14 : Int32) [(.ref a4), .null] .null := f15.pad (pad_rep [(.ref a4)] .null 1)
  obtain ⟨cl23, Ar23, q23, S23, N23, H23, G23⟩ := id f22
  have hin24 : ¬ ((1 : Int32) < 0 ∨ cl23.slots.size ≤ ((1 : Int32)).toNatClampNeg) := inb_of S23 ⟨by decide, by decide⟩
  obtain ⟨T24, h24, X24, e24, W24, st24⟩ := stR X19 hx hZ e19 Ar23 (j := (1 : Int32)) hin24 rfl (Sto.ofV Ar23 q23 O2 (Ins.self f21)) (g := (mkF m 16 (lc0 p1) [(.ref a16), (.int 1), (.ref b2), (.ref b2)])) rfl rfl (hb hby at_16)
  have N25 := Fr.snoc X24 N14 g13
  have f26 : Arv Z h24 b2 k2 (.object zs0) (14 : Int32) [(.ref a4), (.ref a16)] .null := Arv.set Ar23 q23 S23 N23 H23 G23 (by rfl) W24 1 rfl (Nat.le_of_ble_eq_true rfl)
  have f29 : Sta Z h24 zs0 zs4 zs1 (.ref a27) := (Sta.wr W24 (Sta.wr W12 (Sta.ext E2 F28)))
  obtain ⟨T30, X30, e30, st30⟩ := getS2 X24 hx hZ hown (host := "") (Or.inl (ww hw 8 rfl)) Via.refl e24 f29 (g := (mkF m 19 (lc0 p1) [(.int 2), (.ref b2), (.ref b2)])) rfl (hb hby at_19)
  have f32 : Exa Z h24 a27 zs0 := (Exa.wr W24 (Exa.wr W12 (Exa.ext E2 F31)))
  have f33 : Arv Z h24 b2 k2 (.object zs0) (14 : Int32) [(.ref a4), (.ref a16), .null] .null := f26.pad (pad_rep [(.ref a4), (.ref a16)] .null 1)
  obtain ⟨cl34, Ar34, q34, S34, N34, H34, G34⟩ := id f33
  have hin35 : ¬ ((2 : Int32) < 0 ∨ cl34.slots.size ≤ ((2 : Int32)).toNatClampNeg) := inb_of S34 ⟨by decide, by decide⟩
  obtain ⟨T35, h35, X35, e35, W35, st35⟩ := stR X30 hx hZ e30 Ar34 (j := (2 : Int32)) hin35 rfl (Sto.ofV Ar34 q34 O2 (Ins.self f32)) (g := (mkF m 22 (lc0 p1) [(.ref a27), (.int 2), (.ref b2), (.ref b2)])) rfl rfl (hb hby at_22)
  have N36 := Fr.snoc X35 N25 g13
  have f37 : Arv Z h35 b2 k2 (.object zs0) (14 : Int32) [(.ref a4), (.ref a16), (.ref a27)] .null := Arv.set Ar34 q34 S34 N34 H34 G34 (by rfl) W35 2 rfl (Nat.le_of_ble_eq_true rfl)
  have f40 : Sta Z h35 zs0 zs5 zs1 (.ref a38) := (Sta.wr W35 (Sta.wr W24 (Sta.wr W12 (Sta.ext E2 F39))))
  obtain ⟨T41, X41, e41, st41⟩ := getS2 X35 hx hZ hown (host := "") (Or.inl (ww hw 10 rfl)) Via.refl e35 f40 (g := (mkF m 25 (lc0 p1) [(.int 3), (.ref b2), (.ref b2)])) rfl (hb hby at_25)
  have f43 : Exa Z h35 a38 zs0 := (Exa.wr W35 (Exa.wr W24 (Exa.wr W12 (Exa.ext E2 F42))))
  have f44 : Arv Z h35 b2 k2 (.object zs0) (14 : Int32) [(.ref a4), (.ref a16), (.ref a27), .null] .null := f37.pad (pad_rep [(.ref a4), (.ref a16), (.ref a27)] .null 1)
  obtain ⟨cl45, Ar45, q45, S45, N45, H45, G45⟩ := id f44
  have hin46 : ¬ ((3 : Int32) < 0 ∨ cl45.slots.size ≤ ((3 : Int32)).toNatClampNeg) := inb_of S45 ⟨by decide, by decide⟩
  obtain ⟨T46, h46, X46, e46, W46, st46⟩ := stR X41 hx hZ e41 Ar45 (j := (3 : Int32)) hin46 rfl (Sto.ofV Ar45 q45 O2 (Ins.self f43)) (g := (mkF m 28 (lc0 p1) [(.ref a38), (.int 3), (.ref b2), (.ref b2)])) rfl rfl (hb hby at_28)
  have N47 := Fr.snoc X46 N36 g13
  have f48 : Arv Z h46 b2 k2 (.object zs0) (14 : Int32) [(.ref a4), (.ref a16), (.ref a27), (.ref a38)] .null := Arv.set Ar45 q45 S45 N45 H45 G45 (by rfl) W46 3 rfl (Nat.le_of_ble_eq_true rfl)
  have f51 : Sta Z h46 zs0 zs6 zs1 (.ref a49) := (Sta.wr W46 (Sta.wr W35 (Sta.wr W24 (Sta.wr W12 (Sta.ext E2 F50)))))
  obtain ⟨T52, X52, e52, st52⟩ := getS2 X46 hx hZ hown (host := "") (Or.inl (ww hw 12 rfl)) Via.refl e46 f51 (g := (mkF m 31 (lc0 p1) [(.int 4), (.ref b2), (.ref b2)])) rfl (hb hby at_31)
  have f54 : Exa Z h46 a49 zs0 := (Exa.wr W46 (Exa.wr W35 (Exa.wr W24 (Exa.wr W12 (Exa.ext E2 F53)))))
  have f55 : Arv Z h46 b2 k2 (.object zs0) (14 : Int32) [(.ref a4), (.ref a16), (.ref a27), (.ref a38), .null] .null := f48.pad (pad_rep [(.ref a4), (.ref a16), (.ref a27), (.ref a38)] .null 1)
  obtain ⟨cl56, Ar56, q56, S56, N56, H56, G56⟩ := id f55
  have hin57 : ¬ ((4 : Int32) < 0 ∨ cl56.slots.size ≤ ((4 : Int32)).toNatClampNeg) := inb_of S56 ⟨by decide, by decide⟩
  obtain ⟨T57, h57, X57, e57, W57, st57⟩ := stR X52 hx hZ e52 Ar56 (j := (4 : Int32)) hin57 rfl (Sto.ofV Ar56 q56 O2 (Ins.self f54)) (g := (mkF m 34 (lc0 p1) [(.ref a49), (.int 4), (.ref b2), (.ref b2)])) rfl rfl (hb hby at_34)
  have N58 := Fr.snoc X57 N47 g13
  have f59 : Arv Z h57 b2 k2 (.object zs0) (14 : Int32) [(.ref a4), (.ref a16), (.ref a27), (.ref a38), (.ref a49)] .null := Arv.set Ar56 q56 S56 N56 H56 G56 (by rfl) W57 4 rfl (Nat.le_of_ble_eq_true rfl)
  have f62 : Sta Z h57 zs0 zs7 zs1 (.ref a60) := (Sta.wr W57 (Sta.wr W46 (Sta.wr W35 (Sta.wr W24 (Sta.wr W12 (Sta.ext E2 F61))))))
  obtain ⟨T63, X63, e63, st63⟩ := getS2 X57 hx hZ hown (host := "") (Or.inl (ww hw 14 rfl)) Via.refl e57 f62 (g := (mkF m 37 (lc0 p1) [(.int 5), (.ref b2), (.ref b2)])) rfl (hb hby at_37)
  have f65 : Exa Z h57 a60 zs0 := (Exa.wr W57 (Exa.wr W46 (Exa.wr W35 (Exa.wr W24 (Exa.wr W12 (Exa.ext E2 F64))))))
  have f66 : Arv Z h57 b2 k2 (.object zs0) (14 : Int32) [(.ref a4), (.ref a16), (.ref a27), (.ref a38), (.ref a49), .null] .null := f59.pad (pad_rep [(.ref a4), (.ref a16), (.ref a27), (.ref a38), (.ref a49)] .null 1)
  obtain ⟨cl67, Ar67, q67, S67, N67, H67, G67⟩ := id f66
  have hin68 : ¬ ((5 : Int32) < 0 ∨ cl67.slots.size ≤ ((5 : Int32)).toNatClampNeg) := inb_of S67 ⟨by decide, by decide⟩
  obtain ⟨T68, h68, X68, e68, W68, st68⟩ := stR X63 hx hZ e63 Ar67 (j := (5 : Int32)) hin68 rfl (Sto.ofV Ar67 q67 O2 (Ins.self f65)) (g := (mkF m 40 (lc0 p1) [(.ref a60), (.int 5), (.ref b2), (.ref b2)])) rfl rfl (hb hby at_40)
  have N69 := Fr.snoc X68 N58 g13
  have f70 : Arv Z h68 b2 k2 (.object zs0) (14 : Int32) [(.ref a4), (.ref a16), (.ref a27), (.ref a38), (.ref a49), (.ref a60)] .null := Arv.set Ar67 q67 S67 N67 H67 G67 (by rfl) W68 5 rfl (Nat.le_of_ble_eq_true rfl)
  have f73 : Sta Z h68 zs0 zs8 zs1 (.ref a71) := (Sta.wr W68 (Sta.wr W57 (Sta.wr W46 (Sta.wr W35 (Sta.wr W24 (Sta.wr W12 (Sta.ext E2 F72)))))))
  obtain ⟨T74, X74, e74, st74⟩ := getS2 X68 hx hZ hown (host := "") (Or.inl (ww hw 16 rfl)) Via.refl e68 f73 (g := (mkF m 44 (lc0 p1) [(.int 6), (.ref b2), (.ref b2)])) rfl (hb hby at_44)
  have f76 : Exa Z h68 a71 zs0 := (Exa.wr W68 (Exa.wr W57 (Exa.wr W46 (Exa.wr W35 (Exa.wr W24 (Exa.wr W12 (Exa.ext E2 F75)))))))
  have f77 : Arv Z h68 b2 k2 (.object zs0) (14 : Int32) [(.ref a4), (.ref a16), (.ref a27), (.ref a38), (.ref a49), (.ref a60), .null] .null := f70.pad (pad_rep [(.ref a4), (.ref a16), (.ref a27), (.ref a38), (.ref a49), (.ref a60)] .null 1)
  obtain ⟨cl78, Ar78, q78, S78, N78, H78, G78⟩ := id f77
  have hin79 : ¬ ((6 : Int32) < 0 ∨ cl78.slots.size ≤ ((6 : Int32)).toNatClampNeg) := inb_of S78 ⟨by decide, by decide⟩
  obtain ⟨T79, h79, X79, e79, W79, st79⟩ := stR X74 hx hZ e74 Ar78 (j := (6 : Int32)) hin79 rfl (Sto.ofV Ar78 q78 O2 (Ins.self f76)) (g := (mkF m 47 (lc0 p1) [(.ref a71), (.int 6), (.ref b2), (.ref b2)])) rfl rfl (hb hby at_47)
  have N80 := Fr.snoc X79 N69 g13
  have f81 : Arv Z h79 b2 k2 (.object zs0) (14 : Int32) [(.ref a4), (.ref a16), (.ref a27), (.ref a38), (.ref a49), (.ref a60), (.ref a71)] .null := Arv.set Ar78 q78 S78 N78 H78 G78 (by rfl) W79 6 rfl (Nat.le_of_ble_eq_true rfl)
  have f84 : Sta Z h79 zs0 zs9 zs1 (.ref a82) := (Sta.wr W79 (Sta.wr W68 (Sta.wr W57 (Sta.wr W46 (Sta.wr W35 (Sta.wr W24 (Sta.wr W12 (Sta.ext E2 F83))))))))
  obtain ⟨T85, X85, e85, st85⟩ := getS2 X79 hx hZ hown (host := "") (Or.inl (ww hw 18 rfl)) Via.refl e79 f84 (g := (mkF m 51 (lc0 p1) [(.int 7), (.ref b2), (.ref b2)])) rfl (hb hby at_51)
  have f87 : Exa Z h79 a82 zs0 := (Exa.wr W79 (Exa.wr W68 (Exa.wr W57 (Exa.wr W46 (Exa.wr W35 (Exa.wr W24 (Exa.wr W12 (Exa.ext E2 F86))))))))
  have f88 : Arv Z h79 b2 k2 (.object zs0) (14 : Int32) [(.ref a4), (.ref a16), (.ref a27), (.ref a38), (.ref a49), (.ref a60), (.ref a71), .null] .null := f81.pad (pad_rep [(.ref a4), (.ref a16), (.ref a27), (.ref a38), (.ref a49), (.ref a60), (.ref a71)] .null 1)
  obtain ⟨cl89, Ar89, q89, S89, N89, H89, G89⟩ := id f88
  have hin90 : ¬ ((7 : Int32) < 0 ∨ cl89.slots.size ≤ ((7 : Int32)).toNatClampNeg) := inb_of S89 ⟨by decide, by decide⟩
  obtain ⟨T90, h90, X90, e90, W90, st90⟩ := stR X85 hx hZ e85 Ar89 (j := (7 : Int32)) hin90 rfl (Sto.ofV Ar89 q89 O2 (Ins.self f87)) (g := (mkF m 54 (lc0 p1) [(.ref a82), (.int 7), (.ref b2), (.ref b2)])) rfl rfl (hb hby at_54)
  have N91 := Fr.snoc X90 N80 g13
  have f92 : Arv Z h90 b2 k2 (.object zs0) (14 : Int32) [(.ref a4), (.ref a16), (.ref a27), (.ref a38), (.ref a49), (.ref a60), (.ref a71), (.ref a82)] .null := Arv.set Ar89 q89 S89 N89 H89 G89 (by rfl) W90 7 rfl (Nat.le_of_ble_eq_true rfl)
  have f95 : Sta Z h90 zs0 zs10 zs1 (.ref a93) := (Sta.wr W90 (Sta.wr W79 (Sta.wr W68 (Sta.wr W57 (Sta.wr W46 (Sta.wr W35 (Sta.wr W24 (Sta.wr W12 (Sta.ext E2 F94)))))))))
  obtain ⟨T96, X96, e96, st96⟩ := getS2 X90 hx hZ hown (host := "") (Or.inl (ww hw 20 rfl)) Via.refl e90 f95 (g := (mkF m 58 (lc0 p1) [(.int 8), (.ref b2), (.ref b2)])) rfl (hb hby at_58)
  have f98 : Exa Z h90 a93 zs0 := (Exa.wr W90 (Exa.wr W79 (Exa.wr W68 (Exa.wr W57 (Exa.wr W46 (Exa.wr W35 (Exa.wr W24 (Exa.wr W12 (Exa.ext E2 F97)))))))))
  have f99 : Arv Z h90 b2 k2 (.object zs0) (14 : Int32) [(.ref a4), (.ref a16), (.ref a27), (.ref a38), (.ref a49), (.ref a60), (.ref a71), (.ref a82), .null] .null := f92.pad (pad_rep [(.ref a4), (.ref a16), (.ref a27), (.ref a38), (.ref a49), (.ref a60), (.ref a71), (.ref a82)] .null 1)
  obtain ⟨cl100, Ar100, q100, S100, N100, H100, G100⟩ := id f99
  have hin101 : ¬ ((8 : Int32) < 0 ∨ cl100.slots.size ≤ ((8 : Int32)).toNatClampNeg) := inb_of S100 ⟨by decide, by decide⟩
  obtain ⟨T101, h101, X101, e101, W101, st101⟩ := stR X96 hx hZ e96 Ar100 (j := (8 : Int32)) hin101 rfl (Sto.ofV Ar100 q100 O2 (Ins.self f98)) (g := (mkF m 61 (lc0 p1) [(.ref a93), (.int 8), (.ref b2), (.ref b2)])) rfl rfl (hb hby at_61)
  have N102 := Fr.snoc X101 N91 g13
  have f103 : Arv Z h101 b2 k2 (.object zs0) (14 : Int32) [(.ref a4), (.ref a16), (.ref a27), (.ref a38), (.ref a49), (.ref a60), (.ref a71), (.ref a82), (.ref a93)] .null := Arv.set Ar100 q100 S100 N100 H100 G100 (by rfl) W101 8 rfl (Nat.le_of_ble_eq_true rfl)
  have f106 : Sta Z h101 zs0 "INVALID_JSON" zs1 (.ref a104) := (Sta.wr W101 (Sta.wr W90 (Sta.wr W79 (Sta.wr W68 (Sta.wr W57 (Sta.wr W46 (Sta.wr W35 (Sta.wr W24 (Sta.wr W12 (Sta.ext E2 F105))))))))))
  obtain ⟨T107, X107, e107, st107⟩ := getS2 X101 hx hZ hown (host := "") (Or.inl (ww hw 22 rfl)) Via.refl e101 f106 (g := (mkF m 65 (lc0 p1) [(.int 9), (.ref b2), (.ref b2)])) rfl (hb hby at_65)
  have f109 : Exa Z h101 a104 zs0 := (Exa.wr W101 (Exa.wr W90 (Exa.wr W79 (Exa.wr W68 (Exa.wr W57 (Exa.wr W46 (Exa.wr W35 (Exa.wr W24 (Exa.wr W12 (Exa.ext E2 F108))))))))))
  have f110 : Arv Z h101 b2 k2 (.object zs0) (14 : Int32) [(.ref a4), (.ref a16), (.ref a27), (.ref a38), (.ref a49), (.ref a60), (.ref a71), (.ref a82), (.ref a93), .null] .null := f103.pad (pad_rep [(.ref a4), (.ref a16), (.ref a27), (.ref a38), (.ref a49), (.ref a60), (.ref a71), (.ref a82), (.ref a93)] .null 1)
  obtain ⟨cl111, Ar111, q111, S111, N111, H111, G111⟩ := id f110
  have hin112 : ¬ ((9 : Int32) < 0 ∨ cl111.slots.size ≤ ((9 : Int32)).toNatClampNeg) := inb_of S111 ⟨by decide, by decide⟩
  obtain ⟨T112, h112, X112, e112, W112, st112⟩ := stR X107 hx hZ e107 Ar111 (j := (9 : Int32)) hin112 rfl (Sto.ofV Ar111 q111 O2 (Ins.self f109)) (g := (mkF m 68 (lc0 p1) [(.ref a104), (.int 9), (.ref b2), (.ref b2)])) rfl rfl (hb hby at_68)
  have N113 := Fr.snoc X112 N102 g13
  have f114 : Arv Z h112 b2 k2 (.object zs0) (14 : Int32) [(.ref a4), (.ref a16), (.ref a27), (.ref a38), (.ref a49), (.ref a60), (.ref a71), (.ref a82), (.ref a93), (.ref a104)] .null := Arv.set Ar111 q111 S111 N111 H111 G111 (by rfl) W112 9 rfl (Nat.le_of_ble_eq_true rfl)
  have f117 : Sta Z h112 zs0 "INVALID_TEXT" zs1 (.ref a115) := (Sta.wr W112 (Sta.wr W101 (Sta.wr W90 (Sta.wr W79 (Sta.wr W68 (Sta.wr W57 (Sta.wr W46 (Sta.wr W35 (Sta.wr W24 (Sta.wr W12 (Sta.ext E2 F116)))))))))))
  obtain ⟨T118, X118, e118, st118⟩ := getS2 X112 hx hZ hown (host := "") (Or.inl (ww hw 24 rfl)) Via.refl e112 f117 (g := (mkF m 72 (lc0 p1) [(.int 10), (.ref b2), (.ref b2)])) rfl (hb hby at_72)
  have f120 : Exa Z h112 a115 zs0 := (Exa.wr W112 (Exa.wr W101 (Exa.wr W90 (Exa.wr W79 (Exa.wr W68 (Exa.wr W57 (Exa.wr W46 (Exa.wr W35 (Exa.wr W24 (Exa.wr W12 (Exa.ext E2 F119)))))))))))
  have f121 : Arv Z h112 b2 k2 (.object zs0) (14 : Int32) [(.ref a4), (.ref a16), (.ref a27), (.ref a38), (.ref a49), (.ref a60), (.ref a71), (.ref a82), (.ref a93), (.ref a104), .null] .null := f114.pad (pad_rep [(.ref a4), (.ref a16), (.ref a27), (.ref a38), (.ref a49), (.ref a60), (.ref a71), (.ref a82), (.ref a93), (.ref a104)] .null 1)
  obtain ⟨cl122, Ar122, q122, S122, N122, H122, G122⟩ := id f121
  have hin123 : ¬ ((10 : Int32) < 0 ∨ cl122.slots.size ≤ ((10 : Int32)).toNatClampNeg) := inb_of S122 ⟨by decide, by decide⟩
  obtain ⟨T123, h123, X123, e123, W123, st123⟩ := stR X118 hx hZ e118 Ar122 (j := (10 : Int32)) hin123 rfl (Sto.ofV Ar122 q122 O2 (Ins.self f120)) (g := (mkF m 75 (lc0 p1) [(.ref a115), (.int 10), (.ref b2), (.ref b2)])) rfl rfl (hb hby at_75)
  have N124 := Fr.snoc X123 N113 g13
  have f125 : Arv Z h123 b2 k2 (.object zs0) (14 : Int32) [(.ref a4), (.ref a16), (.ref a27), (.ref a38), (.ref a49), (.ref a60), (.ref a71), (.ref a82), (.ref a93), (.ref a104), (.ref a115)] .null := Arv.set Ar122 q122 S122 N122 H122 G122 (by rfl) W123 10 rfl (Nat.le_of_ble_eq_true rfl)
  have f128 : Sta Z h123 zs0 zs11 zs1 (.ref a126) := (Sta.wr W123 (Sta.wr W112 (Sta.wr W101 (Sta.wr W90 (Sta.wr W79 (Sta.wr W68 (Sta.wr W57 (Sta.wr W46 (Sta.wr W35 (Sta.wr W24 (Sta.wr W12 (Sta.ext E2 F127))))))))))))
  obtain ⟨T129, X129, e129, st129⟩ := getS2 X123 hx hZ hown (host := "") (Or.inl (ww hw 26 rfl)) Via.refl e123 f128 (g := (mkF m 79 (lc0 p1) [(.int 11), (.ref b2), (.ref b2)])) rfl (hb hby at_79)
  have f131 : Exa Z h123 a126 zs0 := (Exa.wr W123 (Exa.wr W112 (Exa.wr W101 (Exa.wr W90 (Exa.wr W79 (Exa.wr W68 (Exa.wr W57 (Exa.wr W46 (Exa.wr W35 (Exa.wr W24 (Exa.wr W12 (Exa.ext E2 F130))))))))))))
  have f132 : Arv Z h123 b2 k2 (.object zs0) (14 : Int32) [(.ref a4), (.ref a16), (.ref a27), (.ref a38), (.ref a49), (.ref a60), (.ref a71), (.ref a82), (.ref a93), (.ref a104), (.ref a115), .null] .null := f125.pad (pad_rep [(.ref a4), (.ref a16), (.ref a27), (.ref a38), (.ref a49), (.ref a60), (.ref a71), (.ref a82), (.ref a93), (.ref a104), (.ref a115)] .null 1)
  obtain ⟨cl133, Ar133, q133, S133, N133, H133, G133⟩ := id f132
  have hin134 : ¬ ((11 : Int32) < 0 ∨ cl133.slots.size ≤ ((11 : Int32)).toNatClampNeg) := inb_of S133 ⟨by decide, by decide⟩
  obtain ⟨T134, h134, X134, e134, W134, st134⟩ := stR X129 hx hZ e129 Ar133 (j := (11 : Int32)) hin134 rfl (Sto.ofV Ar133 q133 O2 (Ins.self f131)) (g := (mkF m 82 (lc0 p1) [(.ref a126), (.int 11), (.ref b2), (.ref b2)])) rfl rfl (hb hby at_82)
  have N135 := Fr.snoc X134 N124 g13
  have f136 : Arv Z h134 b2 k2 (.object zs0) (14 : Int32) [(.ref a4), (.ref a16), (.ref a27), (.ref a38), (.ref a49), (.ref a60), (.ref a71), (.ref a82), (.ref a93), (.ref a104), (.ref a115), (.ref a126)] .null := Arv.set Ar133 q133 S133 N133 H133 G133 (by rfl) W134 11 rfl (Nat.le_of_ble_eq_true rfl)
  have f139 : Sta Z h134 zs0 zs12 zs1 (.ref a137) := (Sta.wr W134 (Sta.wr W123 (Sta.wr W112 (Sta.wr W101 (Sta.wr W90 (Sta.wr W79 (Sta.wr W68 (Sta.wr W57 (Sta.wr W46 (Sta.wr W35 (Sta.wr W24 (Sta.wr W12 (Sta.ext E2 F138)))))))))))))
  obtain ⟨T140, X140, e140, st140⟩ := getS2 X134 hx hZ hown (host := "") (Or.inl (ww hw 28 rfl)) Via.refl e134 f139 (g := (mkF m 86 (lc0 p1) [(.int 12), (.ref b2), (.ref b2)])) rfl (hb hby at_86)
  have f142 : Exa Z h134 a137 zs0 := (Exa.wr W134 (Exa.wr W123 (Exa.wr W112 (Exa.wr W101 (Exa.wr W90 (Exa.wr W79 (Exa.wr W68 (Exa.wr W57 (Exa.wr W46 (Exa.wr W35 (Exa.wr W24 (Exa.wr W12 (Exa.ext E2 F141)))))))))))))
  have f143 : Arv Z h134 b2 k2 (.object zs0) (14 : Int32) [(.ref a4), (.ref a16), (.ref a27), (.ref a38), (.ref a49), (.ref a60), (.ref a71), (.ref a82), (.ref a93), (.ref a104), (.ref a115), (.ref a126), .null] .null := f136.pad (pad_rep [(.ref a4), (.ref a16), (.ref a27), (.ref a38), (.ref a49), (.ref a60), (.ref a71), (.ref a82), (.ref a93), (.ref a104), (.ref a115), (.ref a126)] .null 1)
  obtain ⟨cl144, Ar144, q144, S144, N144, H144, G144⟩ := id f143
  have hin145 : ¬ ((12 : Int32) < 0 ∨ cl144.slots.size ≤ ((12 : Int32)).toNatClampNeg) := inb_of S144 ⟨by decide, by decide⟩
  obtain ⟨T145, h145, X145, e145, W145, st145⟩ := stR X140 hx hZ e140 Ar144 (j := (12 : Int32)) hin145 rfl (Sto.ofV Ar144 q144 O2 (Ins.self f142)) (g := (mkF m 89 (lc0 p1) [(.ref a137), (.int 12), (.ref b2), (.ref b2)])) rfl rfl (hb hby at_89)
  have N146 := Fr.snoc X145 N135 g13
  have f147 : Arv Z h145 b2 k2 (.object zs0) (14 : Int32) [(.ref a4), (.ref a16), (.ref a27), (.ref a38), (.ref a49), (.ref a60), (.ref a71), (.ref a82), (.ref a93), (.ref a104), (.ref a115), (.ref a126), (.ref a137)] .null := Arv.set Ar144 q144 S144 N144 H144 G144 (by rfl) W145 12 rfl (Nat.le_of_ble_eq_true rfl)
  have f150 : Sta Z h145 zs0 "UNKNOWN_ITEM" zs1 (.ref a148) := (Sta.wr W145 (Sta.wr W134 (Sta.wr W123 (Sta.wr W112 (Sta.wr W101 (Sta.wr W90 (Sta.wr W79 (Sta.wr W68 (Sta.wr W57 (Sta.wr W46 (Sta.wr W35 (Sta.wr W24 (Sta.wr W12 (Sta.ext E2 F149))))))))))))))
  obtain ⟨T151, X151, e151, st151⟩ := getS2 X145 hx hZ hown (host := "") (Or.inl (ww hw 30 rfl)) Via.refl e145 f150 (g := (mkF m 93 (lc0 p1) [(.int 13), (.ref b2), (.ref b2)])) rfl (hb hby at_93)
  have f153 : Exa Z h145 a148 zs0 := (Exa.wr W145 (Exa.wr W134 (Exa.wr W123 (Exa.wr W112 (Exa.wr W101 (Exa.wr W90 (Exa.wr W79 (Exa.wr W68 (Exa.wr W57 (Exa.wr W46 (Exa.wr W35 (Exa.wr W24 (Exa.wr W12 (Exa.ext E2 F152))))))))))))))
  have f154 : Arv Z h145 b2 k2 (.object zs0) (14 : Int32) [(.ref a4), (.ref a16), (.ref a27), (.ref a38), (.ref a49), (.ref a60), (.ref a71), (.ref a82), (.ref a93), (.ref a104), (.ref a115), (.ref a126), (.ref a137), .null] .null := f147.pad (pad_rep [(.ref a4), (.ref a16), (.ref a27), (.ref a38), (.ref a49), (.ref a60), (.ref a71), (.ref a82), (.ref a93), (.ref a104), (.ref a115), (.ref a126), (.ref a137)] .null 1)
  obtain ⟨cl155, Ar155, q155, S155, N155, H155, G155⟩ := id f154
  have hin156 : ¬ ((13 : Int32) < 0 ∨ cl155.slots.size ≤ ((13 : Int32)).toNatClampNeg) := inb_of S155 ⟨by decide, by decide⟩
  obtain ⟨T156, h156, X156, e156, W156, st156⟩ := stR X151 hx hZ e151 Ar155 (j := (13 : Int32)) hin156 rfl (Sto.ofV Ar155 q155 O2 (Ins.self f153)) (g := (mkF m 96 (lc0 p1) [(.ref a148), (.int 13), (.ref b2), (.ref b2)])) rfl rfl (hb hby at_96)
  have N157 := Fr.snoc X156 N146 g13
  have f158 : Arv Z h156 b2 k2 (.object zs0) (14 : Int32) [(.ref a4), (.ref a16), (.ref a27), (.ref a38), (.ref a49), (.ref a60), (.ref a71), (.ref a82), (.ref a93), (.ref a104), (.ref a115), (.ref a126), (.ref a137), (.ref a148)] .null := Arv.set Ar155 q155 S155 N155 H155 G155 (by rfl) W156 13 rfl (Nat.le_of_ble_eq_true rfl)
  refine own_go (U' := T156.setTop (mkF m 105 (lc1 p1 b2) [(.int ((p1 &&& (2147483647 : Int32)) % (14 : Int32)))])) (fun t k => obipush X0 hx hby at_0 (st2 _ (odup X2 hx hby at_5 rfl (oiconst X2 hx hby at_6 (st7 _ (st12 _ (odup X12 hx hby at_11 rfl (oiconst X12 hx hby at_12 (st19 _ (st24 _ (odup X24 hx hby at_17 rfl (oiconst X24 hx hby at_18 (st30 _ (st35 _ (odup X35 hx hby at_23 rfl (oiconst X35 hx hby at_24 (st41 _ (st46 _ (odup X46 hx hby at_29 rfl (oiconst X46 hx hby at_30 (st52 _ (st57 _ (odup X57 hx hby at_35 rfl (oiconst X57 hx hby at_36 (st63 _ (st68 _ (odup X68 hx hby at_41 rfl (obipush X68 hx hby at_42 (st74 _ (st79 _ (odup X79 hx hby at_48 rfl (obipush X79 hx hby at_49 (st85 _ (st90 _ (odup X90 hx hby at_55 rfl (obipush X90 hx hby at_56 (st96 _ (st101 _ (odup X101 hx hby at_62 rfl (obipush X101 hx hby at_63 (st107 _ (st112 _ (odup X112 hx hby at_69 rfl (obipush X112 hx hby at_70 (st118 _ (st123 _ (odup X123 hx hby at_76 rfl (obipush X123 hx hby at_77 (st129 _ (st134 _ (odup X134 hx hby at_83 rfl (obipush X134 hx hby at_84 (st140 _ (st145 _ (odup X145 hx hby at_90 rfl (obipush X145 hx hby at_91 (st151 _ (st156 _ (oastoreN X156 hx hby at_97 (lc1 p1 b2) rfl rfl (oiloadN X156 hx hby at_98 rfl (X156.ldcInt hx hown (mvT hZ (ww hw 32 rfl)) (g := (mkF m 99 (lc1 p1 b2) [(.int p1)])) rfl (hb hby at_99) _ (oiand X156 hx hby at_101 (obipush X156 hx hby at_102 (oirem X156 hx hby at_104 (by decide) k)))))))))))))))))))))))))))))))))))))))))))))))))))))))))))))))) ?_
  rw [hv159]
  obtain ⟨cl160, Ar160, q160, S160, N160, H160, G160⟩ := id f158
  have hin161 : ¬ ((8 : Int32) < 0 ∨ cl160.slots.size ≤ ((8 : Int32)).toNatClampNeg) := inb_of S160 ⟨by decide, by decide⟩
  have hat161 : cl160.slots[((8 : Int32)).toNatClampNeg]? = some (.ref a93) := Has.at H160 hin161 rfl
  refine own_go (U' := T156.setTop (mkF m 113 (lc3 p1 b2 8 a93) [(.int 9), (.int 8)])) (fun t k => oistoreN X156 hx hby at_105 (lc2 p1 b2 8) rfl (oaloadN X156 hx hby at_106 rfl rfl (oiloadN X156 hx hby at_107 rfl (X156.aaload hx (j := (8 : Int32)) (v := (.ref a93)) (by rw [e156]; exact Ar160.1) (State.isArrayOf_alike hZ.alike Ar160.2.1) rfl Ar160.2.2 hin161 hat161 (g := (mkF m 108 (lc2 p1 b2 8) [(.int 8), (.ref b2)])) rfl rfl (hb hby at_108) _ (oastoreN X156 hx hby at_109 (lc3 p1 b2 8 a93) rfl rfl (oiloadN X156 hx hby at_110 rfl (obipush X156 hx hby at_111 k))))))) ?_
  refine own_go (U' := T156.setTop (mkF m 119 (lc3 p1 b2 8 a93) [(.int 10), (.int 8)])) (fun t k => oicN X156 hx hby at_113 (by decide) (oiloadN X156 hx hby at_116 rfl (obipush X156 hx hby at_117 k))) ?_
  have f163 : Exa Z h156 a93 zs0 := (Exa.wr W156 (Exa.wr W145 (Exa.wr W134 (Exa.wr W123 (Exa.wr W112 (Exa.wr W101 f98))))))
  have f164 : Sta Z h156 zs0 "INVALID_JSON" zs1 (.ref a104) := (Sta.wr W156 (Sta.wr W145 (Sta.wr W134 (Sta.wr W123 (Sta.wr W112 f106)))))
  have f166 : Sta Z h156 zs0 "INVALID_TEXT" zs1 (.ref a115) := (Sta.wr W156 (Sta.wr W145 (Sta.wr W134 (Sta.wr W123 f117))))
  have Z_1 : n0 ≤ h2.size := Nat.le_trans Z0 E2.1
  have Z_2 : n0 ≤ h12.size := Nat.le_trans Z_1 (Keep.of_wr W12).1
  have Z_3 : n0 ≤ h24.size := Nat.le_trans Z_2 (Keep.of_wr W24).1
  have Z_4 : n0 ≤ h35.size := Nat.le_trans Z_3 (Keep.of_wr W35).1
  have Z_5 : n0 ≤ h46.size := Nat.le_trans Z_4 (Keep.of_wr W46).1
  have Z_6 : n0 ≤ h57.size := Nat.le_trans Z_5 (Keep.of_wr W57).1
  have Z_7 : n0 ≤ h68.size := Nat.le_trans Z_6 (Keep.of_wr W68).1
  have Z_8 : n0 ≤ h79.size := Nat.le_trans Z_7 (Keep.of_wr W79).1
  have Z_9 : n0 ≤ h90.size := Nat.le_trans Z_8 (Keep.of_wr W90).1
  have Z_10 : n0 ≤ h101.size := Nat.le_trans Z_9 (Keep.of_wr W101).1
  have Z_11 : n0 ≤ h112.size := Nat.le_trans Z_10 (Keep.of_wr W112).1
  have Z_12 : n0 ≤ h123.size := Nat.le_trans Z_11 (Keep.of_wr W123).1
  have Z_13 : n0 ≤ h134.size := Nat.le_trans Z_12 (Keep.of_wr W134).1
  have Z_14 : n0 ≤ h145.size := Nat.le_trans Z_13 (Keep.of_wr W145).1
  have Z_15 : n0 ≤ h156.size := Nat.le_trans Z_14 (Keep.of_wr W156).1
  obtain ⟨_, T162, L162, X162, hQ162, st162⟩ := ocallV X156 hx hZ zm0 zm0 hown (ww hw 33 rfl) (ww hw 34 rfl) (notFace_of_selects (args := #[]) (mvT hZ (ww hw 36 rfl))) (ww hw 36 rfl) (ww hw 35 rfl) (by decide) (ww hw 37 rfl) (ww hw 3 rfl) e156 f163 (rm1_0 l Z a0 hw [] a93 a104 a115 h156 n0 Z_15 f164 ha165 f166 ha167) (st := [(.ref a93)]) rfl 0 rfl (by decide) (pc := 130) (Ls := (lc4 p1 b2 8 a93 0)) hml rfl (lenOf pd_0 rfl) at_130 hby
  obtain ⟨rfl, N162q, e162⟩ := hQ162
  have N168 := Fr.app N157 N162q
  refine own_go (U' := T162.setTop (mkF m 135 (lc4 p1 b2 8 a93 0) [(.int 0), (.int 0)])) (fun t k => oicY (pc := 119) X156 hx hby at_119 126 (by decide) (by decide) (oiconst X156 hx hby at_126 (oistore X156 hx hby at_127 (lc4 p1 b2 8 a93 0) rfl (oaloadN X156 hx hby at_129 rfl rfl (st162 _ (oiload X162 hx hby at_133 rfl k)))))) ?_
  refine own_go (U' := T162.setTop (mkF m 143 (lc4 p1 b2 8 a93 0) [(.int 1)])) (fun t k => oicN X162 hx hby at_135 (by decide) (oiconst X162 hx hby at_138 (ogoto (pc := 139) X162 hx hby at_139 143 (by decide) k))) ?_
  obtain ⟨fs, hr, hrun, hended, hW, hsame⟩ := X162.leave (v := some (.int 1)) (fun h => by rw [Bd.returns] at h; cases h)
  refine own_out ⟨_, _, ?_, hrun, hended, _, _, rfl, ?_, ⟨_, rfl⟩, hW, hsame.mono (by decide) (by decide)⟩
  · exact retN X162 hx (t := .boolean) Bd.returns (by simp) (hb hby at_143) hr
  · exact ⟨rfl, N168⟩
def Q1_10 (Z : State) (a1 : Addr) (h0 : Heap) (n0 : Nat) (v : Option Value) (h : Heap) (L : List Loc) : Prop := v = some (.int 1) ∧ Fr n0 L ∧ h = h0
set_option maxRecDepth 65536 in
set_option maxHeartbeats 40000000 in
theorem rm1_10 (l : Launch) (Z : State) (a0 : Array Value) (hw : ∀ d ∈ tables_1, d.before a0 Z = true) (ws : List Jvm.Cond) (a1 : Addr) (h0 : Heap) (n0 : Nat) (Z0 : n0 ≤ h0.size) (F2 : Sta Z h0 zs0 "INVALID_JSON" zs1 (.ref a1)) :
    MetFree l zm0 (head1 (Jvm.Cond.code zm0 prog_20_method_4_code 1 (some .boolean) :: ws) ({ frames := 0, cells := 0, slots := 0, locals := 0 } : Room)) (fun a U => a = #[(.ref a1)] ∧ Z.Warmed39 U.vm ∧ U.heap = h0) (fun _ _ _ _ _ => True) (fun _ U o U' => ∃ v L, o = .returned v ∧ Q1_10 Z a1 h0 n0 v U'.heap L ∧ FrameEnd U o U' L ({ frames := 0, cells := 0, slots := 0, locals := 0 } : Room).cells ({ frames := 0, cells := 0, slots := 0, locals := 0 } : Room).slots) := by
  refine MetFree.of_bodySF (plainFor_of_name pn_com_example_strict_ledger_strictledger_RefusalCode) hisR ?_
  intro p e s m args below meth c s₁ Bd hml0 hP hK
  obtain ⟨rfl, hZ, hh⟩ := hP
  have hx := Bd.exec
  have hby := Bd.bytes
  have hml : c.maxLocals = 1 := hml0
  have hown : s.vm.findClass zs0 = some m.cls := findClass_of_methodNamed Bd.named
  have hnm := (name_of_methodNamed Bd.named Bd.method).1
  have X0 : Stand p l e ({ frames := 0, cells := 0, slots := 0, locals := 0 } : Room) s m #[(.ref a1)] below meth c s₁ [] 0 0 := Stand.of_body Bd
  have e0 : s₁.heap = h0 := by rw [← hh, Bd.state]; rfl
  have N0 := Fr.nil n0
  refine own_pre (g' := mkF m 0 (lc5 a1) []) (ef_0 m a1) ?_
  obtain ⟨T3, X3, e3, st3⟩ := getS2 X0 hx hZ hown (host := "") (Or.inl (ww hw 38 rfl)) Via.refl e0 F2 (g := (mkF m 1 (lc5 a1) [(.ref a1)])) rfl (hb hby d1_1)
  refine own_go (U' := T3.setTop (mkF m 19 (lc5 a1) [(.int 1)])) (fun t k => oaloadN X0 hx hby d1_0 rfl rfl (st3 _ (oacmp (pc := 4) X3 hx hby d1_4 14 (same := true) rfl rfl (decide_eq_true rfl) (by decide) (oiconst X3 hx hby d1_14 (ogoto (pc := 15) X3 hx hby d1_15 19 (by decide) k))))) ?_
  obtain ⟨fs, hr, hrun, hended, hW, hsame⟩ := X3.leave (v := some (.int 1)) (fun h => by rw [Bd.returns] at h; cases h)
  refine own_out ⟨_, _, ?_, hrun, hended, _, _, rfl, ?_, ⟨_, rfl⟩, hW, hsame.mono (by decide) (by decide)⟩
  · exact retN X3 hx (t := .boolean) Bd.returns (by simp) (hb hby d1_19) hr
  · show Q1_10 Z a1 h0 n0 _ T3.heap _
    rw [e3]
    exact ⟨rfl, N0, rfl⟩
set_option maxRecDepth 65536 in
set_option maxHeartbeats 40000000 in
theorem rm0_11 (l : Launch) (Z : State) (a0 : Array Value) (hw : ∀ d ∈ tables_1, d.before a0 Z = true) (ws : List Jvm.Cond) (p1 : Int32) (a4 : Addr) (a16 : Addr) (a27 : Addr) (a38 : Addr) (a49 : Addr) (a60 : Addr) (a71 : Addr) (a82 : Addr) (a93 : Addr) (a104 : Addr) (a115 : Addr) (a126 : Addr) (a137 : Addr) (a148 : Addr) (h0 : Heap) (n0 : Nat) (Z0 : n0 ≤ h0.size) (F5 : Sta Z h0 zs0 zs2 zs1 (.ref a4)) (F8 : Exa Z h0 a4 zs0) (F17 : Sta Z h0 zs0 zs3 zs1 (.ref a16)) (F20 : Exa Z h0 a16 zs0) (F28 : Sta Z h0 zs0 zs4 zs1 (.ref a27)) (F31 : Exa Z h0 a27 zs0) (F39 : Sta Z h0 zs0 zs5 zs1 (.ref a38)) (F42 : Exa Z h0 a38 zs0) (F50 : Sta Z h0 zs0 zs6 zs1 (.ref a49)) (F53 : Exa Z h0 a49 zs0) (F61 : Sta Z h0 zs0 zs7 zs1 (.ref a60)) (F64 : Exa Z h0 a60 zs0) (F72 : Sta Z h0 zs0 zs8 zs1 (.ref a71)) (F75 : Exa Z h0 a71 zs0) (F83 : Sta Z h0 zs0 zs9 zs1 (.ref a82)) (F86 : Exa Z h0 a82 zs0) (F94 : Sta Z h0 zs0 zs10 zs1 (.ref a93)) (F97 : Exa Z h0 a93 zs0) (F105 : Sta Z h0 zs0 "INVALID_JSON" zs1 (.ref a104)) (F108 : Exa Z h0 a104 zs0) (F116 : Sta Z h0 zs0 "INVALID_TEXT" zs1 (.ref a115)) (F119 : Exa Z h0 a115 zs0) (F127 : Sta Z h0 zs0 zs11 zs1 (.ref a126)) (F130 : Exa Z h0 a126 zs0) (F138 : Sta Z h0 zs0 zs12 zs1 (.ref a137)) (F141 : Exa Z h0 a137 zs0) (F149 : Sta Z h0 zs0 "UNKNOWN_ITEM" zs1 (.ref a148)) (F152 : Exa Z h0 a148 zs0) (hv159 : ((p1 &&& (2147483647 : Int32)) % (14 : Int32)) = (9 : Int32)) :
    MetFree l x (head1 (Jvm.Cond.code x code maxLocals ret :: ws) room_1) (fun a U => a = #[(.int p1)] ∧ Z.Warmed39 U.vm ∧ U.heap = h0) (fun _ _ _ _ _ => True) (fun _ U o U' => ∃ v L, o = .returned v ∧ QLaw n0 v U'.heap L ∧ FrameEnd U o U' L room_1.cells room_1.slots) := by
  refine MetFree.of_bodySF (plainFor_of_name pn_com_example_strict_ledger_strictledger_RefusalCodeIsAboutTextPinLaw) hisR ?_
  intro p e s m args below meth c s₁ Bd hml0 hP hK
  obtain ⟨rfl, hZ, hh⟩ := hP
  have hx := Bd.exec
  have hby := Bd.bytes
  have hml : c.maxLocals = 5 := hml0
  have hown : s.vm.findClass zs13 = some m.cls := findClass_of_methodNamed Bd.named
  have hnm := (name_of_methodNamed Bd.named Bd.method).1
  have X0 : Stand p l e room_1 s m #[(.int p1)] below meth c s₁ [] 0 0 := Stand.of_body Bd
  have e0 : s₁.heap = h0 := by rw [← hh, Bd.state]; rfl
  have N0 := Fr.nil n0
  refine own_pre (g' := mkF m 0 (lc0 p1) []) (ef_1 m p1) ?_
  obtain ⟨T2, h2, k2, X2, e2, E2, A2, B2, O2, st2⟩ := newRE X0 hx hZ hown (ww hw 0 rfl) (ww hw 1 rfl) e0 (g := (mkF m 2 (lc0 p1) [(.int 14)])) rfl (hb hby at_2) rfl (by decide) (cap := 14) (by decide) (by decide) (by decide) (by decide) (ad := zs14) (by decide)
  obtain ⟨b2, g2⟩ : ∃ z, z = h0.size := ⟨_, rfl⟩
  rw [← g2] at A2 B2 st2
  have f3 : Arv Z h2 b2 k2 (.object zs0) (14 : Int32) [] .null := Arv.new A2 (by decide)
  have f6 : Sta Z h2 zs0 zs2 zs1 (.ref a4) := (Sta.ext E2 F5)
  obtain ⟨T7, X7, e7, st7⟩ := getS2 X2 hx hZ hown (host := "") (Or.inl (ww hw 2 rfl)) Via.refl e2 f6 (g := (mkF m 7 (lc0 p1) [(.int 0), (.ref b2), (.ref b2)])) rfl (hb hby at_7)
  have f9 : Exa Z h2 a4 zs0 := (Exa.ext E2 F8)
  have f10 : Arv Z h2 b2 k2 (.object zs0) (14 : Int32) [.null] .null := f3.pad (pad_rep [] .null 1)
  obtain ⟨cl11, Ar11, q11, S11, N11, H11, G11⟩ := id f10
  have g13 : n0 ≤ b2 := Nat.le_trans Z0 (Nat.le_of_eq g2.symm)
  have hin12 : ¬ ((0 : Int32) < 0 ∨ cl11.slots.size ≤ ((0 : Int32)).toNatClampNeg) := inb_of S11 ⟨by decide, by decide⟩
  obtain ⟨T12, h12, X12, e12, W12, st12⟩ := stR X7 hx hZ e7 Ar11 (j := (0 : Int32)) hin12 rfl (Sto.ofV Ar11 q11 O2 (Ins.self f9)) (g := (mkF m 10 (lc0 p1) [(.ref a4), (.int 0), (.ref b2), (.ref b2)])) rfl rfl (hb hby at_10)
  have N14 := Fr.snoc X12 N0 g13
  have f15 : Arv Z h12 b2 k2 (.object zs0) (14 : Int32) [(.ref a4)] .null := Arv.set Ar11 q11 S11 N11 H11 G11 (by rfl) W12 0 rfl (Nat.le_of_ble_eq_true rfl)
  have f18 : Sta Z h12 zs0 zs3 zs1 (.ref a16) := (Sta.wr W12 (Sta.ext E2 F17))
  obtain ⟨T19, X19, e19, st19⟩ := getS2 X12 hx hZ hown (host := "") (Or.inl (ww hw 6 rfl)) Via.refl e12 f18 (g := (mkF m 13 (lc0 p1) [(.int 1), (.ref b2), (.ref b2)])) rfl (hb hby at_13)
  have f21 : Exa Z h12 a16 zs0 := (Exa.wr W12 (Exa.ext E2 F20))
  have f22 : Arv Z h12 b2 k2 (.object zs0) (14 : Int32) [(.ref a4), .null] .null := f15.pad (pad_rep [(.ref a4)] .null 1)
  obtain ⟨cl23, Ar23, q23, S23, N23, H23, G23⟩ := id f22
  have hin24 : ¬ ((1 : Int32) < 0 ∨ cl23.slots.size ≤ ((1 : Int32)).toNatClampNeg) := inb_of S23 ⟨by decide, by decide⟩
  obtain ⟨T24, h24, X24, e24, W24, st24⟩ := stR X19 hx hZ e19 Ar23 (j := (1 : Int32)) hin24 rfl (Sto.ofV Ar23 q23 O2 (Ins.self f21)) (g := (mkF m 16 (lc0 p1) [(.ref a16), (.int 1), (.ref b2), (.ref b2)])) rfl rfl (hb hby at_16)
  have N25 := Fr.snoc X24 N14 g13
  have f26 : Arv Z h24 b2 k2 (.object zs0) (14 : Int32) [(.ref a4), (.ref a16)] .null := Arv.set Ar23 q23 S23 N23 H23 G23 (by rfl) W24 1 rfl (Nat.le_of_ble_eq_true rfl)
  have f29 : Sta Z h24 zs0 zs4 zs1 (.ref a27) := (Sta.wr W24 (Sta.wr W12 (Sta.ext E2 F28)))
  obtain ⟨T30, X30, e30, st30⟩ := getS2 X24 hx hZ hown (host := "") (Or.inl (ww hw 8 rfl)) Via.refl e24 f29 (g := (mkF m 19 (lc0 p1) [(.int 2), (.ref b2), (.ref b2)])) rfl (hb hby at_19)
  have f32 : Exa Z h24 a27 zs0 := (Exa.wr W24 (Exa.wr W12 (Exa.ext E2 F31)))
  have f33 : Arv Z h24 b2 k2 (.object zs0) (14 : Int32) [(.ref a4), (.ref a16), .null] .null := f26.pad (pad_rep [(.ref a4), (.ref a16)] .null 1)
  obtain ⟨cl34, Ar34, q34, S34, N34, H34, G34⟩ := id f33
  have hin35 : ¬ ((2 : Int32) < 0 ∨ cl34.slots.size ≤ ((2 : Int32)).toNatClampNeg) := inb_of S34 ⟨by decide, by decide⟩
  obtain ⟨T35, h35, X35, e35, W35, st35⟩ := stR X30 hx hZ e30 Ar34 (j := (2 : Int32)) hin35 rfl (Sto.ofV Ar34 q34 O2 (Ins.self f32)) (g := (mkF m 22 (lc0 p1) [(.ref a27), (.int 2), (.ref b2), (.ref b2)])) rfl rfl (hb hby at_22)
  have N36 := Fr.snoc X35 N25 g13
  have f37 : Arv Z h35 b2 k2 (.object zs0) (14 : Int32) [(.ref a4), (.ref a16), (.ref a27)] .null := Arv.set Ar34 q34 S34 N34 H34 G34 (by rfl) W35 2 rfl (Nat.le_of_ble_eq_true rfl)
  have f40 : Sta Z h35 zs0 zs5 zs1 (.ref a38) := (Sta.wr W35 (Sta.wr W24 (Sta.wr W12 (Sta.ext E2 F39))))
  obtain ⟨T41, X41, e41, st41⟩ := getS2 X35 hx hZ hown (host := "") (Or.inl (ww hw 10 rfl)) Via.refl e35 f40 (g := (mkF m 25 (lc0 p1) [(.int 3), (.ref b2), (.ref b2)])) rfl (hb hby at_25)
  have f43 : Exa Z h35 a38 zs0 := (Exa.wr W35 (Exa.wr W24 (Exa.wr W12 (Exa.ext E2 F42))))
  have f44 : Arv Z h35 b2 k2 (.object zs0) (14 : Int32) [(.ref a4), (.ref a16), (.ref a27), .null] .null := f37.pad (pad_rep [(.ref a4), (.ref a16), (.ref a27)] .null 1)
  obtain ⟨cl45, Ar45, q45, S45, N45, H45, G45⟩ := id f44
  have hin46 : ¬ ((3 : Int32) < 0 ∨ cl45.slots.size ≤ ((3 : Int32)).toNatClampNeg) := inb_of S45 ⟨by decide, by decide⟩
  obtain ⟨T46, h46, X46, e46, W46, st46⟩ := stR X41 hx hZ e41 Ar45 (j := (3 : Int32)) hin46 rfl (Sto.ofV Ar45 q45 O2 (Ins.self f43)) (g := (mkF m 28 (lc0 p1) [(.ref a38), (.int 3), (.ref b2), (.ref b2)])) rfl rfl (hb hby at_28)
  have N47 := Fr.snoc X46 N36 g13
  have f48 : Arv Z h46 b2 k2 (.object zs0) (14 : Int32) [(.ref a4), (.ref a16), (.ref a27), (.ref a38)] .null := Arv.set Ar45 q45 S45 N45 H45 G45 (by rfl) W46 3 rfl (Nat.le_of_ble_eq_true rfl)
  have f51 : Sta Z h46 zs0 zs6 zs1 (.ref a49) := (Sta.wr W46 (Sta.wr W35 (Sta.wr W24 (Sta.wr W12 (Sta.ext E2 F50)))))
  obtain ⟨T52, X52, e52, st52⟩ := getS2 X46 hx hZ hown (host := "") (Or.inl (ww hw 12 rfl)) Via.refl e46 f51 (g := (mkF m 31 (lc0 p1) [(.int 4), (.ref b2), (.ref b2)])) rfl (hb hby at_31)
  have f54 : Exa Z h46 a49 zs0 := (Exa.wr W46 (Exa.wr W35 (Exa.wr W24 (Exa.wr W12 (Exa.ext E2 F53)))))
  have f55 : Arv Z h46 b2 k2 (.object zs0) (14 : Int32) [(.ref a4), (.ref a16), (.ref a27), (.ref a38), .null] .null := f48.pad (pad_rep [(.ref a4), (.ref a16), (.ref a27), (.ref a38)] .null 1)
  obtain ⟨cl56, Ar56, q56, S56, N56, H56, G56⟩ := id f55
  have hin57 : ¬ ((4 : Int32) < 0 ∨ cl56.slots.size ≤ ((4 : Int32)).toNatClampNeg) := inb_of S56 ⟨by decide, by decide⟩
  obtain ⟨T57, h57, X57, e57, W57, st57⟩ := stR X52 hx hZ e52 Ar56 (j := (4 : Int32)) hin57 rfl (Sto.ofV Ar56 q56 O2 (Ins.self f54)) (g := (mkF m 34 (lc0 p1) [(.ref a49), (.int 4), (.ref b2), (.ref b2)])) rfl rfl (hb hby at_34)
  have N58 := Fr.snoc X57 N47 g13
  have f59 : Arv Z h57 b2 k2 (.object zs0) (14 : Int32) [(.ref a4), (.ref a16), (.ref a27), (.ref a38), (.ref a49)] .null := Arv.set Ar56 q56 S56 N56 H56 G56 (by rfl) W57 4 rfl (Nat.le_of_ble_eq_true rfl)
  have f62 : Sta Z h57 zs0 zs7 zs1 (.ref a60) := (Sta.wr W57 (Sta.wr W46 (Sta.wr W35 (Sta.wr W24 (Sta.wr W12 (Sta.ext E2 F61))))))
  obtain ⟨T63, X63, e63, st63⟩ := getS2 X57 hx hZ hown (host := "") (Or.inl (ww hw 14 rfl)) Via.refl e57 f62 (g := (mkF m 37 (lc0 p1) [(.int 5), (.ref b2), (.ref b2)])) rfl (hb hby at_37)
  have f65 : Exa Z h57 a60 zs0 := (Exa.wr W57 (Exa.wr W46 (Exa.wr W35 (Exa.wr W24 (Exa.wr W12 (Exa.ext E2 F64))))))
  have f66 : Arv Z h57 b2 k2 (.object zs0) (14 : Int32) [(.ref a4), (.ref a16), (.ref a27), (.ref a38), (.ref a49), .null] .null := f59.pad (pad_rep [(.ref a4), (.ref a16), (.ref a27), (.ref a38), (.ref a49)] .null 1)
  obtain ⟨cl67, Ar67, q67, S67, N67, H67, G67⟩ := id f66
  have hin68 : ¬ ((5 : Int32) < 0 ∨ cl67.slots.size ≤ ((5 : Int32)).toNatClampNeg) := inb_of S67 ⟨by decide, by decide⟩
  obtain ⟨T68, h68, X68, e68, W68, st68⟩ := stR X63 hx hZ e63 Ar67 (j := (5 : Int32)) hin68 rfl (Sto.ofV Ar67 q67 O2 (Ins.self f65)) (g := (mkF m 40 (lc0 p1) [(.ref a60), (.int 5), (.ref b2), (.ref b2)])) rfl rfl (hb hby at_40)
  have N69 := Fr.snoc X68 N58 g13
  have f70 : Arv Z h68 b2 k2 (.object zs0) (14 : Int32) [(.ref a4), (.ref a16), (.ref a27), (.ref a38), (.ref a49), (.ref a60)] .null := Arv.set Ar67 q67 S67 N67 H67 G67 (by rfl) W68 5 rfl (Nat.le_of_ble_eq_true rfl)
  have f73 : Sta Z h68 zs0 zs8 zs1 (.ref a71) := (Sta.wr W68 (Sta.wr W57 (Sta.wr W46 (Sta.wr W35 (Sta.wr W24 (Sta.wr W12 (Sta.ext E2 F72)))))))
  obtain ⟨T74, X74, e74, st74⟩ := getS2 X68 hx hZ hown (host := "") (Or.inl (ww hw 16 rfl)) Via.refl e68 f73 (g := (mkF m 44 (lc0 p1) [(.int 6), (.ref b2), (.ref b2)])) rfl (hb hby at_44)
  have f76 : Exa Z h68 a71 zs0 := (Exa.wr W68 (Exa.wr W57 (Exa.wr W46 (Exa.wr W35 (Exa.wr W24 (Exa.wr W12 (Exa.ext E2 F75)))))))
  have f77 : Arv Z h68 b2 k2 (.object zs0) (14 : Int32) [(.ref a4), (.ref a16), (.ref a27), (.ref a38), (.ref a49), (.ref a60), .null] .null := f70.pad (pad_rep [(.ref a4), (.ref a16), (.ref a27), (.ref a38), (.ref a49), (.ref a60)] .null 1)
  obtain ⟨cl78, Ar78, q78, S78, N78, H78, G78⟩ := id f77
  have hin79 : ¬ ((6 : Int32) < 0 ∨ cl78.slots.size ≤ ((6 : Int32)).toNatClampNeg) := inb_of S78 ⟨by decide, by decide⟩
  obtain ⟨T79, h79, X79, e79, W79, st79⟩ := stR X74 hx hZ e74 Ar78 (j := (6 : Int32)) hin79 rfl (Sto.ofV Ar78 q78 O2 (Ins.self f76)) (g := (mkF m 47 (lc0 p1) [(.ref a71), (.int 6), (.ref b2), (.ref b2)])) rfl rfl (hb hby at_47)
  have N80 := Fr.snoc X79 N69 g13
  have f81 : Arv Z h79 b2 k2 (.object zs0) (14 : Int32) [(.ref a4), (.ref a16), (.ref a27), (.ref a38), (.ref a49), (.ref a60), (.ref a71)] .null := Arv.set Ar78 q78 S78 N78 H78 G78 (by rfl) W79 6 rfl (Nat.le_of_ble_eq_true rfl)
  have f84 : Sta Z h79 zs0 zs9 zs1 (.ref a82) := (Sta.wr W79 (Sta.wr W68 (Sta.wr W57 (Sta.wr W46 (Sta.wr W35 (Sta.wr W24 (Sta.wr W12 (Sta.ext E2 F83))))))))
  obtain ⟨T85, X85, e85, st85⟩ := getS2 X79 hx hZ hown (host := "") (Or.inl (ww hw 18 rfl)) Via.refl e79 f84 (g := (mkF m 51 (lc0 p1) [(.int 7), (.ref b2), (.ref b2)])) rfl (hb hby at_51)
  have f87 : Exa Z h79 a82 zs0 := (Exa.wr W79 (Exa.wr W68 (Exa.wr W57 (Exa.wr W46 (Exa.wr W35 (Exa.wr W24 (Exa.wr W12 (Exa.ext E2 F86))))))))
  have f88 : Arv Z h79 b2 k2 (.object zs0) (14 : Int32) [(.ref a4), (.ref a16), (.ref a27), (.ref a38), (.ref a49), (.ref a60), (.ref a71), .null] .null := f81.pad (pad_rep [(.ref a4), (.ref a16), (.ref a27), (.ref a38), (.ref a49), (.ref a60), (.ref a71)] .null 1)
  obtain ⟨cl89, Ar89, q89, S89, N89, H89, G89⟩ := id f88
  have hin90 : ¬ ((7 : Int32) < 0 ∨ cl89.slots.size ≤ ((7 : Int32)).toNatClampNeg) := inb_of S89 ⟨by decide, by decide⟩
  obtain ⟨T90, h90, X90, e90, W90, st90⟩ := stR X85 hx hZ e85 Ar89 (j := (7 : Int32)) hin90 rfl (Sto.ofV Ar89 q89 O2 (Ins.self f87)) (g := (mkF m 54 (lc0 p1) [(.ref a82), (.int 7), (.ref b2), (.ref b2)])) rfl rfl (hb hby at_54)
  have N91 := Fr.snoc X90 N80 g13
  have f92 : Arv Z h90 b2 k2 (.object zs0) (14 : Int32) [(.ref a4), (.ref a16), (.ref a27), (.ref a38), (.ref a49), (.ref a60), (.ref a71), (.ref a82)] .null := Arv.set Ar89 q89 S89 N89 H89 G89 (by rfl) W90 7 rfl (Nat.le_of_ble_eq_true rfl)
  have f95 : Sta Z h90 zs0 zs10 zs1 (.ref a93) := (Sta.wr W90 (Sta.wr W79 (Sta.wr W68 (Sta.wr W57 (Sta.wr W46 (Sta.wr W35 (Sta.wr W24 (Sta.wr W12 (Sta.ext E2 F94)))))))))
  obtain ⟨T96, X96, e96, st96⟩ := getS2 X90 hx hZ hown (host := "") (Or.inl (ww hw 20 rfl)) Via.refl e90 f95 (g := (mkF m 58 (lc0 p1) [(.int 8), (.ref b2), (.ref b2)])) rfl (hb hby at_58)
  have f98 : Exa Z h90 a93 zs0 := (Exa.wr W90 (Exa.wr W79 (Exa.wr W68 (Exa.wr W57 (Exa.wr W46 (Exa.wr W35 (Exa.wr W24 (Exa.wr W12 (Exa.ext E2 F97)))))))))
  have f99 : Arv Z h90 b2 k2 (.object zs0) (14 : Int32) [(.ref a4), (.ref a16), (.ref a27), (.ref a38), (.ref a49), (.ref a60), (.ref a71), (.ref a82), .null] .null := f92.pad (pad_rep [(.ref a4), (.ref a16), (.ref a27), (.ref a38), (.ref a49), (.ref a60), (.ref a71), (.ref a82)] .null 1)
  obtain ⟨cl100, Ar100, q100, S100, N100, H100, G100⟩ := id f99
  have hin101 : ¬ ((8 : Int32) < 0 ∨ cl100.slots.size ≤ ((8 : Int32)).toNatClampNeg) := inb_of S100 ⟨by decide, by decide⟩
  obtain ⟨T101, h101, X101, e101, W101, st101⟩ := stR X96 hx hZ e96 Ar100 (j := (8 : Int32)) hin101 rfl (Sto.ofV Ar100 q100 O2 (Ins.self f98)) (g := (mkF m 61 (lc0 p1) [(.ref a93), (.int 8), (.ref b2), (.ref b2)])) rfl rfl (hb hby at_61)
  have N102 := Fr.snoc X101 N91 g13
  have f103 : Arv Z h101 b2 k2 (.object zs0) (14 : Int32) [(.ref a4), (.ref a16), (.ref a27), (.ref a38), (.ref a49), (.ref a60), (.ref a71), (.ref a82), (.ref a93)] .null := Arv.set Ar100 q100 S100 N100 H100 G100 (by rfl) W101 8 rfl (Nat.le_of_ble_eq_true rfl)
  have f106 : Sta Z h101 zs0 "INVALID_JSON" zs1 (.ref a104) := (Sta.wr W101 (Sta.wr W90 (Sta.wr W79 (Sta.wr W68 (Sta.wr W57 (Sta.wr W46 (Sta.wr W35 (Sta.wr W24 (Sta.wr W12 (Sta.ext E2 F105))))))))))
  obtain ⟨T107, X107, e107, st107⟩ := getS2 X101 hx hZ hown (host := "") (Or.inl (ww hw 22 rfl)) Via.refl e101 f106 (g := (mkF m 65 (lc0 p1) [(.int 9), (.ref b2), (.ref b2)])) rfl (hb hby at_65)
  have f109 : Exa Z h101 a104 zs0 := (Exa.wr W101 (Exa.wr W90 (Exa.wr W79 (Exa.wr W68 (Exa.wr W57 (Exa.wr W46 (Exa.wr W35 (Exa.wr W24 (Exa.wr W12 (Exa.ext E2 F108))))))))))
  have f110 : Arv Z h101 b2 k2 (.object zs0) (14 : Int32) [(.ref a4), (.ref a16), (.ref a27), (.ref a38), (.ref a49), (.ref a60), (.ref a71), (.ref a82), (.ref a93), .null] .null := f103.pad (pad_rep [(.ref a4), (.ref a16), (.ref a27), (.ref a38), (.ref a49), (.ref a60), (.ref a71), (.ref a82), (.ref a93)] .null 1)
  obtain ⟨cl111, Ar111, q111, S111, N111, H111, G111⟩ := id f110
  have hin112 : ¬ ((9 : Int32) < 0 ∨ cl111.slots.size ≤ ((9 : Int32)).toNatClampNeg) := inb_of S111 ⟨by decide, by decide⟩
  obtain ⟨T112, h112, X112, e112, W112, st112⟩ := stR X107 hx hZ e107 Ar111 (j := (9 : Int32)) hin112 rfl (Sto.ofV Ar111 q111 O2 (Ins.self f109)) (g := (mkF m 68 (lc0 p1) [(.ref a104), (.int 9), (.ref b2), (.ref b2)])) rfl rfl (hb hby at_68)
  have N113 := Fr.snoc X112 N102 g13
  have f114 : Arv Z h112 b2 k2 (.object zs0) (14 : Int32) [(.ref a4), (.ref a16), (.ref a27), (.ref a38), (.ref a49), (.ref a60), (.ref a71), (.ref a82), (.ref a93), (.ref a104)] .null := Arv.set Ar111 q111 S111 N111 H111 G111 (by rfl) W112 9 rfl (Nat.le_of_ble_eq_true rfl)
  have f117 : Sta Z h112 zs0 "INVALID_TEXT" zs1 (.ref a115) := (Sta.wr W112 (Sta.wr W101 (Sta.wr W90 (Sta.wr W79 (Sta.wr W68 (Sta.wr W57 (Sta.wr W46 (Sta.wr W35 (Sta.wr W24 (Sta.wr W12 (Sta.ext E2 F116)))))))))))
  obtain ⟨T118, X118, e118, st118⟩ := getS2 X112 hx hZ hown (host := "") (Or.inl (ww hw 24 rfl)) Via.refl e112 f117 (g := (mkF m 72 (lc0 p1) [(.int 10), (.ref b2), (.ref b2)])) rfl (hb hby at_72)
  have f120 : Exa Z h112 a115 zs0 := (Exa.wr W112 (Exa.wr W101 (Exa.wr W90 (Exa.wr W79 (Exa.wr W68 (Exa.wr W57 (Exa.wr W46 (Exa.wr W35 (Exa.wr W24 (Exa.wr W12 (Exa.ext E2 F119)))))))))))
  have f121 : Arv Z h112 b2 k2 (.object zs0) (14 : Int32) [(.ref a4), (.ref a16), (.ref a27), (.ref a38), (.ref a49), (.ref a60), (.ref a71), (.ref a82), (.ref a93), (.ref a104), .null] .null := f114.pad (pad_rep [(.ref a4), (.ref a16), (.ref a27), (.ref a38), (.ref a49), (.ref a60), (.ref a71), (.ref a82), (.ref a93), (.ref a104)] .null 1)
  obtain ⟨cl122, Ar122, q122, S122, N122, H122, G122⟩ := id f121
  have hin123 : ¬ ((10 : Int32) < 0 ∨ cl122.slots.size ≤ ((10 : Int32)).toNatClampNeg) := inb_of S122 ⟨by decide, by decide⟩
  obtain ⟨T123, h123, X123, e123, W123, st123⟩ := stR X118 hx hZ e118 Ar122 (j := (10 : Int32)) hin123 rfl (Sto.ofV Ar122 q122 O2 (Ins.self f120)) (g := (mkF m 75 (lc0 p1) [(.ref a115), (.int 10), (.ref b2), (.ref b2)])) rfl rfl (hb hby at_75)
  have N124 := Fr.snoc X123 N113 g13
  have f125 : Arv Z h123 b2 k2 (.object zs0) (14 : Int32) [(.ref a4), (.ref a16), (.ref a27), (.ref a38), (.ref a49), (.ref a60), (.ref a71), (.ref a82), (.ref a93), (.ref a104), (.ref a115)] .null := Arv.set Ar122 q122 S122 N122 H122 G122 (by rfl) W123 10 rfl (Nat.le_of_ble_eq_true rfl)
  have f128 : Sta Z h123 zs0 zs11 zs1 (.ref a126) := (Sta.wr W123 (Sta.wr W112 (Sta.wr W101 (Sta.wr W90 (Sta.wr W79 (Sta.wr W68 (Sta.wr W57 (Sta.wr W46 (Sta.wr W35 (Sta.wr W24 (Sta.wr W12 (Sta.ext E2 F127))))))))))))
  obtain ⟨T129, X129, e129, st129⟩ := getS2 X123 hx hZ hown (host := "") (Or.inl (ww hw 26 rfl)) Via.refl e123 f128 (g := (mkF m 79 (lc0 p1) [(.int 11), (.ref b2), (.ref b2)])) rfl (hb hby at_79)
  have f131 : Exa Z h123 a126 zs0 := (Exa.wr W123 (Exa.wr W112 (Exa.wr W101 (Exa.wr W90 (Exa.wr W79 (Exa.wr W68 (Exa.wr W57 (Exa.wr W46 (Exa.wr W35 (Exa.wr W24 (Exa.wr W12 (Exa.ext E2 F130))))))))))))
  have f132 : Arv Z h123 b2 k2 (.object zs0) (14 : Int32) [(.ref a4), (.ref a16), (.ref a27), (.ref a38), (.ref a49), (.ref a60), (.ref a71), (.ref a82), (.ref a93), (.ref a104), (.ref a115), .null] .null := f125.pad (pad_rep [(.ref a4), (.ref a16), (.ref a27), (.ref a38), (.ref a49), (.ref a60), (.ref a71), (.ref a82), (.ref a93), (.ref a104), (.ref a115)] .null 1)
  obtain ⟨cl133, Ar133, q133, S133, N133, H133, G133⟩ := id f132
  have hin134 : ¬ ((11 : Int32) < 0 ∨ cl133.slots.size ≤ ((11 : Int32)).toNatClampNeg) := inb_of S133 ⟨by decide, by decide⟩
  obtain ⟨T134, h134, X134, e134, W134, st134⟩ := stR X129 hx hZ e129 Ar133 (j := (11 : Int32)) hin134 rfl (Sto.ofV Ar133 q133 O2 (Ins.self f131)) (g := (mkF m 82 (lc0 p1) [(.ref a126), (.int 11), (.ref b2), (.ref b2)])) rfl rfl (hb hby at_82)
  have N135 := Fr.snoc X134 N124 g13
  have f136 : Arv Z h134 b2 k2 (.object zs0) (14 : Int32) [(.ref a4), (.ref a16), (.ref a27), (.ref a38), (.ref a49), (.ref a60), (.ref a71), (.ref a82), (.ref a93), (.ref a104), (.ref a115), (.ref a126)] .null := Arv.set Ar133 q133 S133 N133 H133 G133 (by rfl) W134 11 rfl (Nat.le_of_ble_eq_true rfl)
  have f139 : Sta Z h134 zs0 zs12 zs1 (.ref a137) := (Sta.wr W134 (Sta.wr W123 (Sta.wr W112 (Sta.wr W101 (Sta.wr W90 (Sta.wr W79 (Sta.wr W68 (Sta.wr W57 (Sta.wr W46 (Sta.wr W35 (Sta.wr W24 (Sta.wr W12 (Sta.ext E2 F138)))))))))))))
  obtain ⟨T140, X140, e140, st140⟩ := getS2 X134 hx hZ hown (host := "") (Or.inl (ww hw 28 rfl)) Via.refl e134 f139 (g := (mkF m 86 (lc0 p1) [(.int 12), (.ref b2), (.ref b2)])) rfl (hb hby at_86)
  have f142 : Exa Z h134 a137 zs0 := (Exa.wr W134 (Exa.wr W123 (Exa.wr W112 (Exa.wr W101 (Exa.wr W90 (Exa.wr W79 (Exa.wr W68 (Exa.wr W57 (Exa.wr W46 (Exa.wr W35 (Exa.wr W24 (Exa.wr W12 (Exa.ext E2 F141)))))))))))))
  have f143 : Arv Z h134 b2 k2 (.object zs0) (14 : Int32) [(.ref a4), (.ref a16), (.ref a27), (.ref a38), (.ref a49), (.ref a60), (.ref a71), (.ref a82), (.ref a93), (.ref a104), (.ref a115), (.ref a126), .null] .null := f136.pad (pad_rep [(.ref a4), (.ref a16), (.ref a27), (.ref a38), (.ref a49), (.ref a60), (.ref a71), (.ref a82), (.ref a93), (.ref a104), (.ref a115), (.ref a126)] .null 1)
  obtain ⟨cl144, Ar144, q144, S144, N144, H144, G144⟩ := id f143
  have hin145 : ¬ ((12 : Int32) < 0 ∨ cl144.slots.size ≤ ((12 : Int32)).toNatClampNeg) := inb_of S144 ⟨by decide, by decide⟩
  obtain ⟨T145, h145, X145, e145, W145, st145⟩ := stR X140 hx hZ e140 Ar144 (j := (12 : Int32)) hin145 rfl (Sto.ofV Ar144 q144 O2 (Ins.self f142)) (g := (mkF m 89 (lc0 p1) [(.ref a137), (.int 12), (.ref b2), (.ref b2)])) rfl rfl (hb hby at_89)
  have N146 := Fr.snoc X145 N135 g13
  have f147 : Arv Z h145 b2 k2 (.object zs0) (14 : Int32) [(.ref a4), (.ref a16), (.ref a27), (.ref a38), (.ref a49), (.ref a60), (.ref a71), (.ref a82), (.ref a93), (.ref a104), (.ref a115), (.ref a126), (.ref a137)] .null := Arv.set Ar144 q144 S144 N144 H144 G144 (by rfl) W145 12 rfl (Nat.le_of_ble_eq_true rfl)
  have f150 : Sta Z h145 zs0 "UNKNOWN_ITEM" zs1 (.ref a148) := (Sta.wr W145 (Sta.wr W134 (Sta.wr W123 (Sta.wr W112 (Sta.wr W101 (Sta.wr W90 (Sta.wr W79 (Sta.wr W68 (Sta.wr W57 (Sta.wr W46 (Sta.wr W35 (Sta.wr W24 (Sta.wr W12 (Sta.ext E2 F149))))))))))))))
  obtain ⟨T151, X151, e151, st151⟩ := getS2 X145 hx hZ hown (host := "") (Or.inl (ww hw 30 rfl)) Via.refl e145 f150 (g := (mkF m 93 (lc0 p1) [(.int 13), (.ref b2), (.ref b2)])) rfl (hb hby at_93)
  have f153 : Exa Z h145 a148 zs0 := (Exa.wr W145 (Exa.wr W134 (Exa.wr W123 (Exa.wr W112 (Exa.wr W101 (Exa.wr W90 (Exa.wr W79 (Exa.wr W68 (Exa.wr W57 (Exa.wr W46 (Exa.wr W35 (Exa.wr W24 (Exa.wr W12 (Exa.ext E2 F152))))))))))))))
  have f154 : Arv Z h145 b2 k2 (.object zs0) (14 : Int32) [(.ref a4), (.ref a16), (.ref a27), (.ref a38), (.ref a49), (.ref a60), (.ref a71), (.ref a82), (.ref a93), (.ref a104), (.ref a115), (.ref a126), (.ref a137), .null] .null := f147.pad (pad_rep [(.ref a4), (.ref a16), (.ref a27), (.ref a38), (.ref a49), (.ref a60), (.ref a71), (.ref a82), (.ref a93), (.ref a104), (.ref a115), (.ref a126), (.ref a137)] .null 1)
  obtain ⟨cl155, Ar155, q155, S155, N155, H155, G155⟩ := id f154
  have hin156 : ¬ ((13 : Int32) < 0 ∨ cl155.slots.size ≤ ((13 : Int32)).toNatClampNeg) := inb_of S155 ⟨by decide, by decide⟩
  obtain ⟨T156, h156, X156, e156, W156, st156⟩ := stR X151 hx hZ e151 Ar155 (j := (13 : Int32)) hin156 rfl (Sto.ofV Ar155 q155 O2 (Ins.self f153)) (g := (mkF m 96 (lc0 p1) [(.ref a148), (.int 13), (.ref b2), (.ref b2)])) rfl rfl (hb hby at_96)
  have N157 := Fr.snoc X156 N146 g13
  have f158 : Arv Z h156 b2 k2 (.object zs0) (14 : Int32) [(.ref a4), (.ref a16), (.ref a27), (.ref a38), (.ref a49), (.ref a60), (.ref a71), (.ref a82), (.ref a93), (.ref a104), (.ref a115), (.ref a126), (.ref a137), (.ref a148)] .null := Arv.set Ar155 q155 S155 N155 H155 G155 (by rfl) W156 13 rfl (Nat.le_of_ble_eq_true rfl)
  refine own_go (U' := T156.setTop (mkF m 105 (lc1 p1 b2) [(.int ((p1 &&& (2147483647 : Int32)) % (14 : Int32)))])) (fun t k => obipush X0 hx hby at_0 (st2 _ (odup X2 hx hby at_5 rfl (oiconst X2 hx hby at_6 (st7 _ (st12 _ (odup X12 hx hby at_11 rfl (oiconst X12 hx hby at_12 (st19 _ (st24 _ (odup X24 hx hby at_17 rfl (oiconst X24 hx hby at_18 (st30 _ (st35 _ (odup X35 hx hby at_23 rfl (oiconst X35 hx hby at_24 (st41 _ (st46 _ (odup X46 hx hby at_29 rfl (oiconst X46 hx hby at_30 (st52 _ (st57 _ (odup X57 hx hby at_35 rfl (oiconst X57 hx hby at_36 (st63 _ (st68 _ (odup X68 hx hby at_41 rfl (obipush X68 hx hby at_42 (st74 _ (st79 _ (odup X79 hx hby at_48 rfl (obipush X79 hx hby at_49 (st85 _ (st90 _ (odup X90 hx hby at_55 rfl (obipush X90 hx hby at_56 (st96 _ (st101 _ (odup X101 hx hby at_62 rfl (obipush X101 hx hby at_63 (st107 _ (st112 _ (odup X112 hx hby at_69 rfl (obipush X112 hx hby at_70 (st118 _ (st123 _ (odup X123 hx hby at_76 rfl (obipush X123 hx hby at_77 (st129 _ (st134 _ (odup X134 hx hby at_83 rfl (obipush X134 hx hby at_84 (st140 _ (st145 _ (odup X145 hx hby at_90 rfl (obipush X145 hx hby at_91 (st151 _ (st156 _ (oastoreN X156 hx hby at_97 (lc1 p1 b2) rfl rfl (oiloadN X156 hx hby at_98 rfl (X156.ldcInt hx hown (mvT hZ (ww hw 32 rfl)) (g := (mkF m 99 (lc1 p1 b2) [(.int p1)])) rfl (hb hby at_99) _ (oiand X156 hx hby at_101 (obipush X156 hx hby at_102 (oirem X156 hx hby at_104 (by decide) k)))))))))))))))))))))))))))))))))))))))))))))))))))))))))))))))) ?_
  rw [hv159]
  obtain ⟨cl160, Ar160, q160, S160, N160, H160, G160⟩ := id f158
  have hin161 : ¬ ((9 : Int32) < 0 ∨ cl160.slots.size ≤ ((9 : Int32)).toNatClampNeg) := inb_of S160 ⟨by decide, by decide⟩
  have hat161 : cl160.slots[((9 : Int32)).toNatClampNeg]? = some (.ref a104) := Has.at H160 hin161 rfl
  refine own_go (U' := T156.setTop (mkF m 113 (lc3 p1 b2 9 a104) [(.int 9), (.int 9)])) (fun t k => oistoreN X156 hx hby at_105 (lc2 p1 b2 9) rfl (oaloadN X156 hx hby at_106 rfl rfl (oiloadN X156 hx hby at_107 rfl (X156.aaload hx (j := (9 : Int32)) (v := (.ref a104)) (by rw [e156]; exact Ar160.1) (State.isArrayOf_alike hZ.alike Ar160.2.1) rfl Ar160.2.2 hin161 hat161 (g := (mkF m 108 (lc2 p1 b2 9) [(.int 9), (.ref b2)])) rfl rfl (hb hby at_108) _ (oastoreN X156 hx hby at_109 (lc3 p1 b2 9 a104) rfl rfl (oiloadN X156 hx hby at_110 rfl (obipush X156 hx hby at_111 k))))))) ?_
  have f163 : Exa Z h156 a104 zs0 := (Exa.wr W156 (Exa.wr W145 (Exa.wr W134 (Exa.wr W123 (Exa.wr W112 f109)))))
  have f164 : Sta Z h156 zs0 "INVALID_JSON" zs1 (.ref a104) := (Sta.wr W156 (Sta.wr W145 (Sta.wr W134 (Sta.wr W123 (Sta.wr W112 f106)))))
  have Z_1 : n0 ≤ h2.size := Nat.le_trans Z0 E2.1
  have Z_2 : n0 ≤ h12.size := Nat.le_trans Z_1 (Keep.of_wr W12).1
  have Z_3 : n0 ≤ h24.size := Nat.le_trans Z_2 (Keep.of_wr W24).1
  have Z_4 : n0 ≤ h35.size := Nat.le_trans Z_3 (Keep.of_wr W35).1
  have Z_5 : n0 ≤ h46.size := Nat.le_trans Z_4 (Keep.of_wr W46).1
  have Z_6 : n0 ≤ h57.size := Nat.le_trans Z_5 (Keep.of_wr W57).1
  have Z_7 : n0 ≤ h68.size := Nat.le_trans Z_6 (Keep.of_wr W68).1
  have Z_8 : n0 ≤ h79.size := Nat.le_trans Z_7 (Keep.of_wr W79).1
  have Z_9 : n0 ≤ h90.size := Nat.le_trans Z_8 (Keep.of_wr W90).1
  have Z_10 : n0 ≤ h101.size := Nat.le_trans Z_9 (Keep.of_wr W101).1
  have Z_11 : n0 ≤ h112.size := Nat.le_trans Z_10 (Keep.of_wr W112).1
  have Z_12 : n0 ≤ h123.size := Nat.le_trans Z_11 (Keep.of_wr W123).1
  have Z_13 : n0 ≤ h134.size := Nat.le_trans Z_12 (Keep.of_wr W134).1
  have Z_14 : n0 ≤ h145.size := Nat.le_trans Z_13 (Keep.of_wr W145).1
  have Z_15 : n0 ≤ h156.size := Nat.le_trans Z_14 (Keep.of_wr W156).1
  obtain ⟨_, T162, L162, X162, hQ162, st162⟩ := ocallV X156 hx hZ zm0 zm0 hown (ww hw 33 rfl) (ww hw 34 rfl) (notFace_of_selects (args := #[]) (mvT hZ (ww hw 36 rfl))) (ww hw 36 rfl) (ww hw 35 rfl) (by decide) (ww hw 37 rfl) (ww hw 3 rfl) e156 f163 (rm1_10 l Z a0 hw [] a104 h156 n0 Z_15 f164) (st := [(.ref a104)]) rfl 0 rfl (by decide) (pc := 130) (Ls := (lc4 p1 b2 9 a104 1)) hml rfl (lenOf pd_0 rfl) at_130 hby
  obtain ⟨rfl, N162q, e162⟩ := hQ162
  have N165 := Fr.app N157 N162q
  refine own_go (U' := T162.setTop (mkF m 135 (lc4 p1 b2 9 a104 1) [(.int 1), (.int 1)])) (fun t k => oicY (pc := 113) X156 hx hby at_113 122 (by decide) (by decide) (oiconst X156 hx hby at_122 (ogoto (pc := 123) X156 hx hby at_123 127 (by decide) (oistore X156 hx hby at_127 (lc4 p1 b2 9 a104 1) rfl (oaloadN X156 hx hby at_129 rfl rfl (st162 _ (oiload X162 hx hby at_133 rfl k))))))) ?_
  refine own_go (U' := T162.setTop (mkF m 143 (lc4 p1 b2 9 a104 1) [(.int 1)])) (fun t k => oicN X162 hx hby at_135 (by decide) (oiconst X162 hx hby at_138 (ogoto (pc := 139) X162 hx hby at_139 143 (by decide) k))) ?_
  obtain ⟨fs, hr, hrun, hended, hW, hsame⟩ := X162.leave (v := some (.int 1)) (fun h => by rw [Bd.returns] at h; cases h)
  refine own_out ⟨_, _, ?_, hrun, hended, _, _, rfl, ?_, ⟨_, rfl⟩, hW, hsame.mono (by decide) (by decide)⟩
  · exact retN X162 hx (t := .boolean) Bd.returns (by simp) (hb hby at_143) hr
  · exact ⟨rfl, N165⟩
def Q1_12 (Z : State) (a1 : Addr) (a2 : Addr) (h0 : Heap) (n0 : Nat) (v : Option Value) (h : Heap) (L : List Loc) : Prop := v = some (.int 1) ∧ Fr n0 L ∧ h = h0
set_option maxRecDepth 65536 in
set_option maxHeartbeats 40000000 in
theorem rm1_12 (l : Launch) (Z : State) (a0 : Array Value) (hw : ∀ d ∈ tables_1, d.before a0 Z = true) (ws : List Jvm.Cond) (a1 : Addr) (a2 : Addr) (h0 : Heap) (n0 : Nat) (Z0 : n0 ≤ h0.size) (F3 : Sta Z h0 zs0 "INVALID_JSON" zs1 (.ref a2)) (ha5 : a1 ≠ a2) (F6 : Sta Z h0 zs0 "INVALID_TEXT" zs1 (.ref a1)) :
    MetFree l zm0 (head1 (Jvm.Cond.code zm0 prog_20_method_4_code 1 (some .boolean) :: ws) ({ frames := 0, cells := 0, slots := 0, locals := 0 } : Room)) (fun a U => a = #[(.ref a1)] ∧ Z.Warmed39 U.vm ∧ U.heap = h0) (fun _ _ _ _ _ => True) (fun _ U o U' => ∃ v L, o = .returned v ∧ Q1_12 Z a1 a2 h0 n0 v U'.heap L ∧ FrameEnd U o U' L ({ frames := 0, cells := 0, slots := 0, locals := 0 } : Room).cells ({ frames := 0, cells := 0, slots := 0, locals := 0 } : Room).slots) := by
  refine MetFree.of_bodySF (plainFor_of_name pn_com_example_strict_ledger_strictledger_RefusalCode) hisR ?_
  intro p e s m args below meth c s₁ Bd hml0 hP hK
  obtain ⟨rfl, hZ, hh⟩ := hP
  have hx := Bd.exec
  have hby := Bd.bytes
  have hml : c.maxLocals = 1 := hml0
  have hown : s.vm.findClass zs0 = some m.cls := findClass_of_methodNamed Bd.named
  have hnm := (name_of_methodNamed Bd.named Bd.method).1
  have X0 : Stand p l e ({ frames := 0, cells := 0, slots := 0, locals := 0 } : Room) s m #[(.ref a1)] below meth c s₁ [] 0 0 := Stand.of_body Bd
  have e0 : s₁.heap = h0 := by rw [← hh, Bd.state]; rfl
  have N0 := Fr.nil n0
  refine own_pre (g' := mkF m 0 (lc5 a1) []) (ef_0 m a1) ?_
  obtain ⟨T4, X4, e4, st4⟩ := getS2 X0 hx hZ hown (host := "") (Or.inl (ww hw 38 rfl)) Via.refl e0 F3 (g := (mkF m 1 (lc5 a1) [(.ref a1)])) rfl (hb hby d1_1)
  obtain ⟨T7, X7, e7, st7⟩ := getS2 X4 hx hZ hown (host := "") (Or.inl (ww hw 39 rfl)) Via.refl e4 F6 (g := (mkF m 8 (lc5 a1) [(.ref a1)])) rfl (hb hby d1_8)
  refine own_go (U' := T7.setTop (mkF m 19 (lc5 a1) [(.int 1)])) (fun t k => oaloadN X0 hx hby d1_0 rfl rfl (st4 _ (oacmp (pc := 4) X4 hx hby d1_4 7 (same := false) rfl rfl (decide_eq_false fun q => ha5 (Value.ref.inj q)) (by decide) (oaloadN X4 hx hby d1_7 rfl rfl (st7 _ (oacmp (pc := 11) X7 hx hby d1_11 14 (same := true) rfl rfl (decide_eq_true rfl) (by decide) (oiconst X7 hx hby d1_14 (ogoto (pc := 15) X7 hx hby d1_15 19 (by decide) k)))))))) ?_
  obtain ⟨fs, hr, hrun, hended, hW, hsame⟩ := X7.leave (v := some (.int 1)) (fun h => by rw [Bd.returns] at h; cases h)
  refine own_out ⟨_, _, ?_, hrun, hended, _, _, rfl, ?_, ⟨_, rfl⟩, hW, hsame.mono (by decide) (by decide)⟩
  · exact retN X7 hx (t := .boolean) Bd.returns (by simp) (hb hby d1_19) hr
  · show Q1_12 Z a1 a2 h0 n0 _ T7.heap _
    rw [e7]
    exact ⟨rfl, N0, rfl⟩
set_option maxRecDepth 65536 in
set_option maxHeartbeats 40000000 in
theorem rm0_13 (l : Launch) (Z : State) (a0 : Array Value) (hw : ∀ d ∈ tables_1, d.before a0 Z = true) (ws : List Jvm.Cond) (p1 : Int32) (a4 : Addr) (a16 : Addr) (a27 : Addr) (a38 : Addr) (a49 : Addr) (a60 : Addr) (a71 : Addr) (a82 : Addr) (a93 : Addr) (a104 : Addr) (a115 : Addr) (a126 : Addr) (a137 : Addr) (a148 : Addr) (h0 : Heap) (n0 : Nat) (Z0 : n0 ≤ h0.size) (F5 : Sta Z h0 zs0 zs2 zs1 (.ref a4)) (F8 : Exa Z h0 a4 zs0) (F17 : Sta Z h0 zs0 zs3 zs1 (.ref a16)) (F20 : Exa Z h0 a16 zs0) (F28 : Sta Z h0 zs0 zs4 zs1 (.ref a27)) (F31 : Exa Z h0 a27 zs0) (F39 : Sta Z h0 zs0 zs5 zs1 (.ref a38)) (F42 : Exa Z h0 a38 zs0) (F50 : Sta Z h0 zs0 zs6 zs1 (.ref a49)) (F53 : Exa Z h0 a49 zs0) (F61 : Sta Z h0 zs0 zs7 zs1 (.ref a60)) (F64 : Exa Z h0 a60 zs0) (F72 : Sta Z h0 zs0 zs8 zs1 (.ref a71)) (F75 : Exa Z h0 a71 zs0) (F83 : Sta Z h0 zs0 zs9 zs1 (.ref a82)) (F86 : Exa Z h0 a82 zs0) (F94 : Sta Z h0 zs0 zs10 zs1 (.ref a93)) (F97 : Exa Z h0 a93 zs0) (F105 : Sta Z h0 zs0 "INVALID_JSON" zs1 (.ref a104)) (F108 : Exa Z h0 a104 zs0) (F116 : Sta Z h0 zs0 "INVALID_TEXT" zs1 (.ref a115)) (F119 : Exa Z h0 a115 zs0) (F127 : Sta Z h0 zs0 zs11 zs1 (.ref a126)) (F130 : Exa Z h0 a126 zs0) (F138 : Sta Z h0 zs0 zs12 zs1 (.ref a137)) (F141 : Exa Z h0 a137 zs0) (F149 : Sta Z h0 zs0 "UNKNOWN_ITEM" zs1 (.ref a148)) (F152 : Exa Z h0 a148 zs0) (hv159 : ((p1 &&& (2147483647 : Int32)) % (14 : Int32)) = (10 : Int32)) (ha165 : a115 ≠ a104) :
    MetFree l x (head1 (Jvm.Cond.code x code maxLocals ret :: ws) room_1) (fun a U => a = #[(.int p1)] ∧ Z.Warmed39 U.vm ∧ U.heap = h0) (fun _ _ _ _ _ => True) (fun _ U o U' => ∃ v L, o = .returned v ∧ QLaw n0 v U'.heap L ∧ FrameEnd U o U' L room_1.cells room_1.slots) := by
  refine MetFree.of_bodySF (plainFor_of_name pn_com_example_strict_ledger_strictledger_RefusalCodeIsAboutTextPinLaw) hisR ?_
  intro p e s m args below meth c s₁ Bd hml0 hP hK
  obtain ⟨rfl, hZ, hh⟩ := hP
  have hx := Bd.exec
  have hby := Bd.bytes
  have hml : c.maxLocals = 5 := hml0
  have hown : s.vm.findClass zs13 = some m.cls := findClass_of_methodNamed Bd.named
  have hnm := (name_of_methodNamed Bd.named Bd.method).1
  have X0 : Stand p l e room_1 s m #[(.int p1)] below meth c s₁ [] 0 0 := Stand.of_body Bd
  have e0 : s₁.heap = h0 := by rw [← hh, Bd.state]; rfl
  have N0 := Fr.nil n0
  refine own_pre (g' := mkF m 0 (lc0 p1) []) (ef_1 m p1) ?_
  obtain ⟨T2, h2, k2, X2, e2, E2, A2, B2, O2, st2⟩ := newRE X0 hx hZ hown (ww hw 0 rfl) (ww hw 1 rfl) e0 (g := (mkF m 2 (lc0 p1) [(.int 14)])) rfl (hb hby at_2) rfl (by decide) (cap := 14) (by decide) (by decide) (by decide) (by decide) (ad := zs14) (by decide)
  obtain ⟨b2, g2⟩ : ∃ z, z = h0.size := ⟨_, rfl⟩
  rw [← g2] at A2 B2 st2
  have f3 : Arv Z h2 b2 k2 (.object zs0) (14 : Int32) [] .null := Arv.new A2 (by decide)
  have f6 : Sta Z h2 zs0 zs2 zs1 (.ref a4) := (Sta.ext E2 F5)
  obtain ⟨T7, X7, e7, st7⟩ := getS2 X2 hx hZ hown (host := "") (Or.inl (ww hw 2 rfl)) Via.refl e2 f6 (g := (mkF m 7 (lc0 p1) [(.int 0), (.ref b2), (.ref b2)])) rfl (hb hby at_7)
  have f9 : Exa Z h2 a4 zs0 := (Exa.ext E2 F8)
  have f10 : Arv Z h2 b2 k2 (.object zs0) (14 : Int32) [.null] .null := f3.pad (pad_rep [] .null 1)
  obtain ⟨cl11, Ar11, q11, S11, N11, H11, G11⟩ := id f10
  have g13 : n0 ≤ b2 := Nat.le_trans Z0 (Nat.le_of_eq g2.symm)
  have hin12 : ¬ ((0 : Int32) < 0 ∨ cl11.slots.size ≤ ((0 : Int32)).toNatClampNeg) := inb_of S11 ⟨by decide, by decide⟩
  obtain ⟨T12, h12, X12, e12, W12, st12⟩ := stR X7 hx hZ e7 Ar11 (j := (0 : Int32)) hin12 rfl (Sto.ofV Ar11 q11 O2 (Ins.self f9)) (g := (mkF m 10 (lc0 p1) [(.ref a4), (.int 0), (.ref b2), (.ref b2)])) rfl rfl (hb hby at_10)
  have N14 := Fr.snoc X12 N0 g13
  have f15 : Arv Z h12 b2 k2 (.object zs0) (14 : Int32) [(.ref a4)] .null := Arv.set Ar11 q11 S11 N11 H11 G11 (by rfl) W12 0 rfl (Nat.le_of_ble_eq_true rfl)
  have f18 : Sta Z h12 zs0 zs3 zs1 (.ref a16) := (Sta.wr W12 (Sta.ext E2 F17))
  obtain ⟨T19, X19, e19, st19⟩ := getS2 X12 hx hZ hown (host := "") (Or.inl (ww hw 6 rfl)) Via.refl e12 f18 (g := (mkF m 13 (lc0 p1) [(.int 1), (.ref b2), (.ref b2)])) rfl (hb hby at_13)
  have f21 : Exa Z h12 a16 zs0 := (Exa.wr W12 (Exa.ext E2 F20))
  have f22 : Arv Z h12 b2 k2 (.object zs0) (14 : Int32) [(.ref a4), .null] .null := f15.pad (pad_rep [(.ref a4)] .null 1)
  obtain ⟨cl23, Ar23, q23, S23, N23, H23, G23⟩ := id f22
  have hin24 : ¬ ((1 : Int32) < 0 ∨ cl23.slots.size ≤ ((1 : Int32)).toNatClampNeg) := inb_of S23 ⟨by decide, by decide⟩
  obtain ⟨T24, h24, X24, e24, W24, st24⟩ := stR X19 hx hZ e19 Ar23 (j := (1 : Int32)) hin24 rfl (Sto.ofV Ar23 q23 O2 (Ins.self f21)) (g := (mkF m 16 (lc0 p1) [(.ref a16), (.int 1), (.ref b2), (.ref b2)])) rfl rfl (hb hby at_16)
  have N25 := Fr.snoc X24 N14 g13
  have f26 : Arv Z h24 b2 k2 (.object zs0) (14 : Int32) [(.ref a4), (.ref a16)] .null := Arv.set Ar23 q23 S23 N23 H23 G23 (by rfl) W24 1 rfl (Nat.le_of_ble_eq_true rfl)
  have f29 : Sta Z h24 zs0 zs4 zs1 (.ref a27) := (Sta.wr W24 (Sta.wr W12 (Sta.ext E2 F28)))
  obtain ⟨T30, X30, e30, st30⟩ := getS2 X24 hx hZ hown (host := "") (Or.inl (ww hw 8 rfl)) Via.refl e24 f29 (g := (mkF m 19 (lc0 p1) [(.int 2), (.ref b2), (.ref b2)])) rfl (hb hby at_19)
  have f32 : Exa Z h24 a27 zs0 := (Exa.wr W24 (Exa.wr W12 (Exa.ext E2 F31)))
  have f33 : Arv Z h24 b2 k2 (.object zs0) (14 : Int32) [(.ref a4), (.ref a16), .null] .null := f26.pad (pad_rep [(.ref a4), (.ref a16)] .null 1)
  obtain ⟨cl34, Ar34, q34, S34, N34, H34, G34⟩ := id f33
  have hin35 : ¬ ((2 : Int32) < 0 ∨ cl34.slots.size ≤ ((2 : Int32)).toNatClampNeg) := inb_of S34 ⟨by decide, by decide⟩
  obtain ⟨T35, h35, X35, e35, W35, st35⟩ := stR X30 hx hZ e30 Ar34 (j := (2 : Int32)) hin35 rfl (Sto.ofV Ar34 q34 O2 (Ins.self f32)) (g := (mkF m 22 (lc0 p1) [(.ref a27), (.int 2), (.ref b2), (.ref b2)])) rfl rfl (hb hby at_22)
  have N36 := Fr.snoc X35 N25 g13
  have f37 : Arv Z h35 b2 k2 (.object zs0) (14 : Int32) [(.ref a4), (.ref a16), (.ref a27)] .null := Arv.set Ar34 q34 S34 N34 H34 G34 (by rfl) W35 2 rfl (Nat.le_of_ble_eq_true rfl)
  have f40 : Sta Z h35 zs0 zs5 zs1 (.ref a38) := (Sta.wr W35 (Sta.wr W24 (Sta.wr W12 (Sta.ext E2 F39))))
  obtain ⟨T41, X41, e41, st41⟩ := getS2 X35 hx hZ hown (host := "") (Or.inl (ww hw 10 rfl)) Via.refl e35 f40 (g := (mkF m 25 (lc0 p1) [(.int 3), (.ref b2), (.ref b2)])) rfl (hb hby at_25)
  have f43 : Exa Z h35 a38 zs0 := (Exa.wr W35 (Exa.wr W24 (Exa.wr W12 (Exa.ext E2 F42))))
  have f44 : Arv Z h35 b2 k2 (.object zs0) (14 : Int32) [(.ref a4), (.ref a16), (.ref a27), .null] .null := f37.pad (pad_rep [(.ref a4), (.ref a16), (.ref a27)] .null 1)
  obtain ⟨cl45, Ar45, q45, S45, N45, H45, G45⟩ := id f44
  have hin46 : ¬ ((3 : Int32) < 0 ∨ cl45.slots.size ≤ ((3 : Int32)).toNatClampNeg) := inb_of S45 ⟨by decide, by decide⟩
  obtain ⟨T46, h46, X46, e46, W46, st46⟩ := stR X41 hx hZ e41 Ar45 (j := (3 : Int32)) hin46 rfl (Sto.ofV Ar45 q45 O2 (Ins.self f43)) (g := (mkF m 28 (lc0 p1) [(.ref a38), (.int 3), (.ref b2), (.ref b2)])) rfl rfl (hb hby at_28)
  have N47 := Fr.snoc X46 N36 g13
  have f48 : Arv Z h46 b2 k2 (.object zs0) (14 : Int32) [(.ref a4), (.ref a16), (.ref a27), (.ref a38)] .null := Arv.set Ar45 q45 S45 N45 H45 G45 (by rfl) W46 3 rfl (Nat.le_of_ble_eq_true rfl)
  have f51 : Sta Z h46 zs0 zs6 zs1 (.ref a49) := (Sta.wr W46 (Sta.wr W35 (Sta.wr W24 (Sta.wr W12 (Sta.ext E2 F50)))))
  obtain ⟨T52, X52, e52, st52⟩ := getS2 X46 hx hZ hown (host := "") (Or.inl (ww hw 12 rfl)) Via.refl e46 f51 (g := (mkF m 31 (lc0 p1) [(.int 4), (.ref b2), (.ref b2)])) rfl (hb hby at_31)
  have f54 : Exa Z h46 a49 zs0 := (Exa.wr W46 (Exa.wr W35 (Exa.wr W24 (Exa.wr W12 (Exa.ext E2 F53)))))
  have f55 : Arv Z h46 b2 k2 (.object zs0) (14 : Int32) [(.ref a4), (.ref a16), (.ref a27), (.ref a38), .null] .null := f48.pad (pad_rep [(.ref a4), (.ref a16), (.ref a27), (.ref a38)] .null 1)
  obtain ⟨cl56, Ar56, q56, S56, N56, H56, G56⟩ := id f55
  have hin57 : ¬ ((4 : Int32) < 0 ∨ cl56.slots.size ≤ ((4 : Int32)).toNatClampNeg) := inb_of S56 ⟨by decide, by decide⟩
  obtain ⟨T57, h57, X57, e57, W57, st57⟩ := stR X52 hx hZ e52 Ar56 (j := (4 : Int32)) hin57 rfl (Sto.ofV Ar56 q56 O2 (Ins.self f54)) (g := (mkF m 34 (lc0 p1) [(.ref a49), (.int 4), (.ref b2), (.ref b2)])) rfl rfl (hb hby at_34)
  have N58 := Fr.snoc X57 N47 g13
  have f59 : Arv Z h57 b2 k2 (.object zs0) (14 : Int32) [(.ref a4), (.ref a16), (.ref a27), (.ref a38), (.ref a49)] .null := Arv.set Ar56 q56 S56 N56 H56 G56 (by rfl) W57 4 rfl (Nat.le_of_ble_eq_true rfl)
  have f62 : Sta Z h57 zs0 zs7 zs1 (.ref a60) := (Sta.wr W57 (Sta.wr W46 (Sta.wr W35 (Sta.wr W24 (Sta.wr W12 (Sta.ext E2 F61))))))
  obtain ⟨T63, X63, e63, st63⟩ := getS2 X57 hx hZ hown (host := "") (Or.inl (ww hw 14 rfl)) Via.refl e57 f62 (g := (mkF m 37 (lc0 p1) [(.int 5), (.ref b2), (.ref b2)])) rfl (hb hby at_37)
  have f65 : Exa Z h57 a60 zs0 := (Exa.wr W57 (Exa.wr W46 (Exa.wr W35 (Exa.wr W24 (Exa.wr W12 (Exa.ext E2 F64))))))
  have f66 : Arv Z h57 b2 k2 (.object zs0) (14 : Int32) [(.ref a4), (.ref a16), (.ref a27), (.ref a38), (.ref a49), .null] .null := f59.pad (pad_rep [(.ref a4), (.ref a16), (.ref a27), (.ref a38), (.ref a49)] .null 1)
  obtain ⟨cl67, Ar67, q67, S67, N67, H67, G67⟩ := id f66
  have hin68 : ¬ ((5 : Int32) < 0 ∨ cl67.slots.size ≤ ((5 : Int32)).toNatClampNeg) := inb_of S67 ⟨by decide, by decide⟩
  obtain ⟨T68, h68, X68, e68, W68, st68⟩ := stR X63 hx hZ e63 Ar67 (j := (5 : Int32)) hin68 rfl (Sto.ofV Ar67 q67 O2 (Ins.self f65)) (g := (mkF m 40 (lc0 p1) [(.ref a60), (.int 5), (.ref b2), (.ref b2)])) rfl rfl (hb hby at_40)
  have N69 := Fr.snoc X68 N58 g13
  have f70 : Arv Z h68 b2 k2 (.object zs0) (14 : Int32) [(.ref a4), (.ref a16), (.ref a27), (.ref a38), (.ref a49), (.ref a60)] .null := Arv.set Ar67 q67 S67 N67 H67 G67 (by rfl) W68 5 rfl (Nat.le_of_ble_eq_true rfl)
  have f73 : Sta Z h68 zs0 zs8 zs1 (.ref a71) := (Sta.wr W68 (Sta.wr W57 (Sta.wr W46 (Sta.wr W35 (Sta.wr W24 (Sta.wr W12 (Sta.ext E2 F72)))))))
  obtain ⟨T74, X74, e74, st74⟩ := getS2 X68 hx hZ hown (host := "") (Or.inl (ww hw 16 rfl)) Via.refl e68 f73 (g := (mkF m 44 (lc0 p1) [(.int 6), (.ref b2), (.ref b2)])) rfl (hb hby at_44)
  have f76 : Exa Z h68 a71 zs0 := (Exa.wr W68 (Exa.wr W57 (Exa.wr W46 (Exa.wr W35 (Exa.wr W24 (Exa.wr W12 (Exa.ext E2 F75)))))))
  have f77 : Arv Z h68 b2 k2 (.object zs0) (14 : Int32) [(.ref a4), (.ref a16), (.ref a27), (.ref a38), (.ref a49), (.ref a60), .null] .null := f70.pad (pad_rep [(.ref a4), (.ref a16), (.ref a27), (.ref a38), (.ref a49), (.ref a60)] .null 1)
  obtain ⟨cl78, Ar78, q78, S78, N78, H78, G78⟩ := id f77
  have hin79 : ¬ ((6 : Int32) < 0 ∨ cl78.slots.size ≤ ((6 : Int32)).toNatClampNeg) := inb_of S78 ⟨by decide, by decide⟩
  obtain ⟨T79, h79, X79, e79, W79, st79⟩ := stR X74 hx hZ e74 Ar78 (j := (6 : Int32)) hin79 rfl (Sto.ofV Ar78 q78 O2 (Ins.self f76)) (g := (mkF m 47 (lc0 p1) [(.ref a71), (.int 6), (.ref b2), (.ref b2)])) rfl rfl (hb hby at_47)
  have N80 := Fr.snoc X79 N69 g13
  have f81 : Arv Z h79 b2 k2 (.object zs0) (14 : Int32) [(.ref a4), (.ref a16), (.ref a27), (.ref a38), (.ref a49), (.ref a60), (.ref a71)] .null := Arv.set Ar78 q78 S78 N78 H78 G78 (by rfl) W79 6 rfl (Nat.le_of_ble_eq_true rfl)
  have f84 : Sta Z h79 zs0 zs9 zs1 (.ref a82) := (Sta.wr W79 (Sta.wr W68 (Sta.wr W57 (Sta.wr W46 (Sta.wr W35 (Sta.wr W24 (Sta.wr W12 (Sta.ext E2 F83))))))))
  obtain ⟨T85, X85, e85, st85⟩ := getS2 X79 hx hZ hown (host := "") (Or.inl (ww hw 18 rfl)) Via.refl e79 f84 (g := (mkF m 51 (lc0 p1) [(.int 7), (.ref b2), (.ref b2)])) rfl (hb hby at_51)
  have f87 : Exa Z h79 a82 zs0 := (Exa.wr W79 (Exa.wr W68 (Exa.wr W57 (Exa.wr W46 (Exa.wr W35 (Exa.wr W24 (Exa.wr W12 (Exa.ext E2 F86))))))))
  have f88 : Arv Z h79 b2 k2 (.object zs0) (14 : Int32) [(.ref a4), (.ref a16), (.ref a27), (.ref a38), (.ref a49), (.ref a60), (.ref a71), .null] .null := f81.pad (pad_rep [(.ref a4), (.ref a16), (.ref a27), (.ref a38), (.ref a49), (.ref a60), (.ref a71)] .null 1)
  obtain ⟨cl89, Ar89, q89, S89, N89, H89, G89⟩ := id f88
  have hin90 : ¬ ((7 : Int32) < 0 ∨ cl89.slots.size ≤ ((7 : Int32)).toNatClampNeg) := inb_of S89 ⟨by decide, by decide⟩
  obtain ⟨T90, h90, X90, e90, W90, st90⟩ := stR X85 hx hZ e85 Ar89 (j := (7 : Int32)) hin90 rfl (Sto.ofV Ar89 q89 O2 (Ins.self f87)) (g := (mkF m 54 (lc0 p1) [(.ref a82), (.int 7), (.ref b2), (.ref b2)])) rfl rfl (hb hby at_54)
  have N91 := Fr.snoc X90 N80 g13
  have f92 : Arv Z h90 b2 k2 (.object zs0) (14 : Int32) [(.ref a4), (.ref a16), (.ref a27), (.ref a38), (.ref a49), (.ref a60), (.ref a71), (.ref a82)] .null := Arv.set Ar89 q89 S89 N89 H89 G89 (by rfl) W90 7 rfl (Nat.le_of_ble_eq_true rfl)
  have f95 : Sta Z h90 zs0 zs10 zs1 (.ref a93) := (Sta.wr W90 (Sta.wr W79 (Sta.wr W68 (Sta.wr W57 (Sta.wr W46 (Sta.wr W35 (Sta.wr W24 (Sta.wr W12 (Sta.ext E2 F94)))))))))
  obtain ⟨T96, X96, e96, st96⟩ := getS2 X90 hx hZ hown (host := "") (Or.inl (ww hw 20 rfl)) Via.refl e90 f95 (g := (mkF m 58 (lc0 p1) [(.int 8), (.ref b2), (.ref b2)])) rfl (hb hby at_58)
  have f98 : Exa Z h90 a93 zs0 := (Exa.wr W90 (Exa.wr W79 (Exa.wr W68 (Exa.wr W57 (Exa.wr W46 (Exa.wr W35 (Exa.wr W24 (Exa.wr W12 (Exa.ext E2 F97)))))))))
  have f99 : Arv Z h90 b2 k2 (.object zs0) (14 : Int32) [(.ref a4), (.ref a16), (.ref a27), (.ref a38), (.ref a49), (.ref a60), (.ref a71), (.ref a82), .null] .null := f92.pad (pad_rep [(.ref a4), (.ref a16), (.ref a27), (.ref a38), (.ref a49), (.ref a60), (.ref a71), (.ref a82)] .null 1)
  obtain ⟨cl100, Ar100, q100, S100, N100, H100, G100⟩ := id f99
  have hin101 : ¬ ((8 : Int32) < 0 ∨ cl100.slots.size ≤ ((8 : Int32)).toNatClampNeg) := inb_of S100 ⟨by decide, by decide⟩
  obtain ⟨T101, h101, X101, e101, W101, st101⟩ := stR X96 hx hZ e96 Ar100 (j := (8 : Int32)) hin101 rfl (Sto.ofV Ar100 q100 O2 (Ins.self f98)) (g := (mkF m 61 (lc0 p1) [(.ref a93), (.int 8), (.ref b2), (.ref b2)])) rfl rfl (hb hby at_61)
  have N102 := Fr.snoc X101 N91 g13
  have f103 : Arv Z h101 b2 k2 (.object zs0) (14 : Int32) [(.ref a4), (.ref a16), (.ref a27), (.ref a38), (.ref a49), (.ref a60), (.ref a71), (.ref a82), (.ref a93)] .null := Arv.set Ar100 q100 S100 N100 H100 G100 (by rfl) W101 8 rfl (Nat.le_of_ble_eq_true rfl)
  have f106 : Sta Z h101 zs0 "INVALID_JSON" zs1 (.ref a104) := (Sta.wr W101 (Sta.wr W90 (Sta.wr W79 (Sta.wr W68 (Sta.wr W57 (Sta.wr W46 (Sta.wr W35 (Sta.wr W24 (Sta.wr W12 (Sta.ext E2 F105))))))))))
  obtain ⟨T107, X107, e107, st107⟩ := getS2 X101 hx hZ hown (host := "") (Or.inl (ww hw 22 rfl)) Via.refl e101 f106 (g := (mkF m 65 (lc0 p1) [(.int 9), (.ref b2), (.ref b2)])) rfl (hb hby at_65)
  have f109 : Exa Z h101 a104 zs0 := (Exa.wr W101 (Exa.wr W90 (Exa.wr W79 (Exa.wr W68 (Exa.wr W57 (Exa.wr W46 (Exa.wr W35 (Exa.wr W24 (Exa.wr W12 (Exa.ext E2 F108))))))))))
  have f110 : Arv Z h101 b2 k2 (.object zs0) (14 : Int32) [(.ref a4), (.ref a16), (.ref a27), (.ref a38), (.ref a49), (.ref a60), (.ref a71), (.ref a82), (.ref a93), .null] .null := f103.pad (pad_rep [(.ref a4), (.ref a16), (.ref a27), (.ref a38), (.ref a49), (.ref a60), (.ref a71), (.ref a82), (.ref a93)] .null 1)
  obtain ⟨cl111, Ar111, q111, S111, N111, H111, G111⟩ := id f110
  have hin112 : ¬ ((9 : Int32) < 0 ∨ cl111.slots.size ≤ ((9 : Int32)).toNatClampNeg) := inb_of S111 ⟨by decide, by decide⟩
  obtain ⟨T112, h112, X112, e112, W112, st112⟩ := stR X107 hx hZ e107 Ar111 (j := (9 : Int32)) hin112 rfl (Sto.ofV Ar111 q111 O2 (Ins.self f109)) (g := (mkF m 68 (lc0 p1) [(.ref a104), (.int 9), (.ref b2), (.ref b2)])) rfl rfl (hb hby at_68)
  have N113 := Fr.snoc X112 N102 g13
  have f114 : Arv Z h112 b2 k2 (.object zs0) (14 : Int32) [(.ref a4), (.ref a16), (.ref a27), (.ref a38), (.ref a49), (.ref a60), (.ref a71), (.ref a82), (.ref a93), (.ref a104)] .null := Arv.set Ar111 q111 S111 N111 H111 G111 (by rfl) W112 9 rfl (Nat.le_of_ble_eq_true rfl)
  have f117 : Sta Z h112 zs0 "INVALID_TEXT" zs1 (.ref a115) := (Sta.wr W112 (Sta.wr W101 (Sta.wr W90 (Sta.wr W79 (Sta.wr W68 (Sta.wr W57 (Sta.wr W46 (Sta.wr W35 (Sta.wr W24 (Sta.wr W12 (Sta.ext E2 F116)))))))))))
  obtain ⟨T118, X118, e118, st118⟩ := getS2 X112 hx hZ hown (host := "") (Or.inl (ww hw 24 rfl)) Via.refl e112 f117 (g := (mkF m 72 (lc0 p1) [(.int 10), (.ref b2), (.ref b2)])) rfl (hb hby at_72)
  have f120 : Exa Z h112 a115 zs0 := (Exa.wr W112 (Exa.wr W101 (Exa.wr W90 (Exa.wr W79 (Exa.wr W68 (Exa.wr W57 (Exa.wr W46 (Exa.wr W35 (Exa.wr W24 (Exa.wr W12 (Exa.ext E2 F119)))))))))))
  have f121 : Arv Z h112 b2 k2 (.object zs0) (14 : Int32) [(.ref a4), (.ref a16), (.ref a27), (.ref a38), (.ref a49), (.ref a60), (.ref a71), (.ref a82), (.ref a93), (.ref a104), .null] .null := f114.pad (pad_rep [(.ref a4), (.ref a16), (.ref a27), (.ref a38), (.ref a49), (.ref a60), (.ref a71), (.ref a82), (.ref a93), (.ref a104)] .null 1)
  obtain ⟨cl122, Ar122, q122, S122, N122, H122, G122⟩ := id f121
  have hin123 : ¬ ((10 : Int32) < 0 ∨ cl122.slots.size ≤ ((10 : Int32)).toNatClampNeg) := inb_of S122 ⟨by decide, by decide⟩
  obtain ⟨T123, h123, X123, e123, W123, st123⟩ := stR X118 hx hZ e118 Ar122 (j := (10 : Int32)) hin123 rfl (Sto.ofV Ar122 q122 O2 (Ins.self f120)) (g := (mkF m 75 (lc0 p1) [(.ref a115), (.int 10), (.ref b2), (.ref b2)])) rfl rfl (hb hby at_75)
  have N124 := Fr.snoc X123 N113 g13
  have f125 : Arv Z h123 b2 k2 (.object zs0) (14 : Int32) [(.ref a4), (.ref a16), (.ref a27), (.ref a38), (.ref a49), (.ref a60), (.ref a71), (.ref a82), (.ref a93), (.ref a104), (.ref a115)] .null := Arv.set Ar122 q122 S122 N122 H122 G122 (by rfl) W123 10 rfl (Nat.le_of_ble_eq_true rfl)
  have f128 : Sta Z h123 zs0 zs11 zs1 (.ref a126) := (Sta.wr W123 (Sta.wr W112 (Sta.wr W101 (Sta.wr W90 (Sta.wr W79 (Sta.wr W68 (Sta.wr W57 (Sta.wr W46 (Sta.wr W35 (Sta.wr W24 (Sta.wr W12 (Sta.ext E2 F127))))))))))))
  obtain ⟨T129, X129, e129, st129⟩ := getS2 X123 hx hZ hown (host := "") (Or.inl (ww hw 26 rfl)) Via.refl e123 f128 (g := (mkF m 79 (lc0 p1) [(.int 11), (.ref b2), (.ref b2)])) rfl (hb hby at_79)
  have f131 : Exa Z h123 a126 zs0 := (Exa.wr W123 (Exa.wr W112 (Exa.wr W101 (Exa.wr W90 (Exa.wr W79 (Exa.wr W68 (Exa.wr W57 (Exa.wr W46 (Exa.wr W35 (Exa.wr W24 (Exa.wr W12 (Exa.ext E2 F130))))))))))))
  have f132 : Arv Z h123 b2 k2 (.object zs0) (14 : Int32) [(.ref a4), (.ref a16), (.ref a27), (.ref a38), (.ref a49), (.ref a60), (.ref a71), (.ref a82), (.ref a93), (.ref a104), (.ref a115), .null] .null := f125.pad (pad_rep [(.ref a4), (.ref a16), (.ref a27), (.ref a38), (.ref a49), (.ref a60), (.ref a71), (.ref a82), (.ref a93), (.ref a104), (.ref a115)] .null 1)
  obtain ⟨cl133, Ar133, q133, S133, N133, H133, G133⟩ := id f132
  have hin134 : ¬ ((11 : Int32) < 0 ∨ cl133.slots.size ≤ ((11 : Int32)).toNatClampNeg) := inb_of S133 ⟨by decide, by decide⟩
  obtain ⟨T134, h134, X134, e134, W134, st134⟩ := stR X129 hx hZ e129 Ar133 (j := (11 : Int32)) hin134 rfl (Sto.ofV Ar133 q133 O2 (Ins.self f131)) (g := (mkF m 82 (lc0 p1) [(.ref a126), (.int 11), (.ref b2), (.ref b2)])) rfl rfl (hb hby at_82)
  have N135 := Fr.snoc X134 N124 g13
  have f136 : Arv Z h134 b2 k2 (.object zs0) (14 : Int32) [(.ref a4), (.ref a16), (.ref a27), (.ref a38), (.ref a49), (.ref a60), (.ref a71), (.ref a82), (.ref a93), (.ref a104), (.ref a115), (.ref a126)] .null := Arv.set Ar133 q133 S133 N133 H133 G133 (by rfl) W134 11 rfl (Nat.le_of_ble_eq_true rfl)
  have f139 : Sta Z h134 zs0 zs12 zs1 (.ref a137) := (Sta.wr W134 (Sta.wr W123 (Sta.wr W112 (Sta.wr W101 (Sta.wr W90 (Sta.wr W79 (Sta.wr W68 (Sta.wr W57 (Sta.wr W46 (Sta.wr W35 (Sta.wr W24 (Sta.wr W12 (Sta.ext E2 F138)))))))))))))
  obtain ⟨T140, X140, e140, st140⟩ := getS2 X134 hx hZ hown (host := "") (Or.inl (ww hw 28 rfl)) Via.refl e134 f139 (g := (mkF m 86 (lc0 p1) [(.int 12), (.ref b2), (.ref b2)])) rfl (hb hby at_86)
  have f142 : Exa Z h134 a137 zs0 := (Exa.wr W134 (Exa.wr W123 (Exa.wr W112 (Exa.wr W101 (Exa.wr W90 (Exa.wr W79 (Exa.wr W68 (Exa.wr W57 (Exa.wr W46 (Exa.wr W35 (Exa.wr W24 (Exa.wr W12 (Exa.ext E2 F141)))))))))))))
  have f143 : Arv Z h134 b2 k2 (.object zs0) (14 : Int32) [(.ref a4), (.ref a16), (.ref a27), (.ref a38), (.ref a49), (.ref a60), (.ref a71), (.ref a82), (.ref a93), (.ref a104), (.ref a115), (.ref a126), .null] .null := f136.pad (pad_rep [(.ref a4), (.ref a16), (.ref a27), (.ref a38), (.ref a49), (.ref a60), (.ref a71), (.ref a82), (.ref a93), (.ref a104), (.ref a115), (.ref a126)] .null 1)
  obtain ⟨cl144, Ar144, q144, S144, N144, H144, G144⟩ := id f143
  have hin145 : ¬ ((12 : Int32) < 0 ∨ cl144.slots.size ≤ ((12 : Int32)).toNatClampNeg) := inb_of S144 ⟨by decide, by decide⟩
  obtain ⟨T145, h145, X145, e145, W145, st145⟩ := stR X140 hx hZ e140 Ar144 (j := (12 : Int32)) hin145 rfl (Sto.ofV Ar144 q144 O2 (Ins.self f142)) (g := (mkF m 89 (lc0 p1) [(.ref a137), (.int 12), (.ref b2), (.ref b2)])) rfl rfl (hb hby at_89)
  have N146 := Fr.snoc X145 N135 g13
  have f147 : Arv Z h145 b2 k2 (.object zs0) (14 : Int32) [(.ref a4), (.ref a16), (.ref a27), (.ref a38), (.ref a49), (.ref a60), (.ref a71), (.ref a82), (.ref a93), (.ref a104), (.ref a115), (.ref a126), (.ref a137)] .null := Arv.set Ar144 q144 S144 N144 H144 G144 (by rfl) W145 12 rfl (Nat.le_of_ble_eq_true rfl)
  have f150 : Sta Z h145 zs0 "UNKNOWN_ITEM" zs1 (.ref a148) := (Sta.wr W145 (Sta.wr W134 (Sta.wr W123 (Sta.wr W112 (Sta.wr W101 (Sta.wr W90 (Sta.wr W79 (Sta.wr W68 (Sta.wr W57 (Sta.wr W46 (Sta.wr W35 (Sta.wr W24 (Sta.wr W12 (Sta.ext E2 F149))))))))))))))
  obtain ⟨T151, X151, e151, st151⟩ := getS2 X145 hx hZ hown (host := "") (Or.inl (ww hw 30 rfl)) Via.refl e145 f150 (g := (mkF m 93 (lc0 p1) [(.int 13), (.ref b2), (.ref b2)])) rfl (hb hby at_93)
  have f153 : Exa Z h145 a148 zs0 := (Exa.wr W145 (Exa.wr W134 (Exa.wr W123 (Exa.wr W112 (Exa.wr W101 (Exa.wr W90 (Exa.wr W79 (Exa.wr W68 (Exa.wr W57 (Exa.wr W46 (Exa.wr W35 (Exa.wr W24 (Exa.wr W12 (Exa.ext E2 F152))))))))))))))
  have f154 : Arv Z h145 b2 k2 (.object zs0) (14 : Int32) [(.ref a4), (.ref a16), (.ref a27), (.ref a38), (.ref a49), (.ref a60), (.ref a71), (.ref a82), (.ref a93), (.ref a104), (.ref a115), (.ref a126), (.ref a137), .null] .null := f147.pad (pad_rep [(.ref a4), (.ref a16), (.ref a27), (.ref a38), (.ref a49), (.ref a60), (.ref a71), (.ref a82), (.ref a93), (.ref a104), (.ref a115), (.ref a126), (.ref a137)] .null 1)
  obtain ⟨cl155, Ar155, q155, S155, N155, H155, G155⟩ := id f154
  have hin156 : ¬ ((13 : Int32) < 0 ∨ cl155.slots.size ≤ ((13 : Int32)).toNatClampNeg) := inb_of S155 ⟨by decide, by decide⟩
  obtain ⟨T156, h156, X156, e156, W156, st156⟩ := stR X151 hx hZ e151 Ar155 (j := (13 : Int32)) hin156 rfl (Sto.ofV Ar155 q155 O2 (Ins.self f153)) (g := (mkF m 96 (lc0 p1) [(.ref a148), (.int 13), (.ref b2), (.ref b2)])) rfl rfl (hb hby at_96)
  have N157 := Fr.snoc X156 N146 g13
  have f158 : Arv Z h156 b2 k2 (.object zs0) (14 : Int32) [(.ref a4), (.ref a16), (.ref a27), (.ref a38), (.ref a49), (.ref a60), (.ref a71), (.ref a82), (.ref a93), (.ref a104), (.ref a115), (.ref a126), (.ref a137), (.ref a148)] .null := Arv.set Ar155 q155 S155 N155 H155 G155 (by rfl) W156 13 rfl (Nat.le_of_ble_eq_true rfl)
  refine own_go (U' := T156.setTop (mkF m 105 (lc1 p1 b2) [(.int ((p1 &&& (2147483647 : Int32)) % (14 : Int32)))])) (fun t k => obipush X0 hx hby at_0 (st2 _ (odup X2 hx hby at_5 rfl (oiconst X2 hx hby at_6 (st7 _ (st12 _ (odup X12 hx hby at_11 rfl (oiconst X12 hx hby at_12 (st19 _ (st24 _ (odup X24 hx hby at_17 rfl (oiconst X24 hx hby at_18 (st30 _ (st35 _ (odup X35 hx hby at_23 rfl (oiconst X35 hx hby at_24 (st41 _ (st46 _ (odup X46 hx hby at_29 rfl (oiconst X46 hx hby at_30 (st52 _ (st57 _ (odup X57 hx hby at_35 rfl (oiconst X57 hx hby at_36 (st63 _ (st68 _ (odup X68 hx hby at_41 rfl (obipush X68 hx hby at_42 (st74 _ (st79 _ (odup X79 hx hby at_48 rfl (obipush X79 hx hby at_49 (st85 _ (st90 _ (odup X90 hx hby at_55 rfl (obipush X90 hx hby at_56 (st96 _ (st101 _ (odup X101 hx hby at_62 rfl (obipush X101 hx hby at_63 (st107 _ (st112 _ (odup X112 hx hby at_69 rfl (obipush X112 hx hby at_70 (st118 _ (st123 _ (odup X123 hx hby at_76 rfl (obipush X123 hx hby at_77 (st129 _ (st134 _ (odup X134 hx hby at_83 rfl (obipush X134 hx hby at_84 (st140 _ (st145 _ (odup X145 hx hby at_90 rfl (obipush X145 hx hby at_91 (st151 _ (st156 _ (oastoreN X156 hx hby at_97 (lc1 p1 b2) rfl rfl (oiloadN X156 hx hby at_98 rfl (X156.ldcInt hx hown (mvT hZ (ww hw 32 rfl)) (g := (mkF m 99 (lc1 p1 b2) [(.int p1)])) rfl (hb hby at_99) _ (oiand X156 hx hby at_101 (obipush X156 hx hby at_102 (oirem X156 hx hby at_104 (by decide) k)))))))))))))))))))))))))))))))))))))))))))))))))))))))))))))))) ?_
  rw [hv159]
  obtain ⟨cl160, Ar160, q160, S160, N160, H160, G160⟩ := id f158
  have hin161 : ¬ ((10 : Int32) < 0 ∨ cl160.slots.size ≤ ((10 : Int32)).toNatClampNeg) := inb_of S160 ⟨by decide, by decide⟩
  have hat161 : cl160.slots[((10 : Int32)).toNatClampNeg]? = some (.ref a115) := Has.at H160 hin161 rfl
  refine own_go (U' := T156.setTop (mkF m 113 (lc3 p1 b2 10 a115) [(.int 9), (.int 10)])) (fun t k => oistoreN X156 hx hby at_105 (lc2 p1 b2 10) rfl (oaloadN X156 hx hby at_106 rfl rfl (oiloadN X156 hx hby at_107 rfl (X156.aaload hx (j := (10 : Int32)) (v := (.ref a115)) (by rw [e156]; exact Ar160.1) (State.isArrayOf_alike hZ.alike Ar160.2.1) rfl Ar160.2.2 hin161 hat161 (g := (mkF m 108 (lc2 p1 b2 10) [(.int 10), (.ref b2)])) rfl rfl (hb hby at_108) _ (oastoreN X156 hx hby at_109 (lc3 p1 b2 10 a115) rfl rfl (oiloadN X156 hx hby at_110 rfl (obipush X156 hx hby at_111 k))))))) ?_
  refine own_go (U' := T156.setTop (mkF m 119 (lc3 p1 b2 10 a115) [(.int 10), (.int 10)])) (fun t k => oicN X156 hx hby at_113 (by decide) (oiloadN X156 hx hby at_116 rfl (obipush X156 hx hby at_117 k))) ?_
  have f163 : Exa Z h156 a115 zs0 := (Exa.wr W156 (Exa.wr W145 (Exa.wr W134 (Exa.wr W123 f120))))
  have f164 : Sta Z h156 zs0 "INVALID_JSON" zs1 (.ref a104) := (Sta.wr W156 (Sta.wr W145 (Sta.wr W134 (Sta.wr W123 (Sta.wr W112 f106)))))
  have f166 : Sta Z h156 zs0 "INVALID_TEXT" zs1 (.ref a115) := (Sta.wr W156 (Sta.wr W145 (Sta.wr W134 (Sta.wr W123 f117))))
  have Z_1 : n0 ≤ h2.size := Nat.le_trans Z0 E2.1
  have Z_2 : n0 ≤ h12.size := Nat.le_trans Z_1 (Keep.of_wr W12).1
  have Z_3 : n0 ≤ h24.size := Nat.le_trans Z_2 (Keep.of_wr W24).1
  have Z_4 : n0 ≤ h35.size := Nat.le_trans Z_3 (Keep.of_wr W35).1
  have Z_5 : n0 ≤ h46.size := Nat.le_trans Z_4 (Keep.of_wr W46).1
  have Z_6 : n0 ≤ h57.size := Nat.le_trans Z_5 (Keep.of_wr W57).1
  have Z_7 : n0 ≤ h68.size := Nat.le_trans Z_6 (Keep.of_wr W68).1
  have Z_8 : n0 ≤ h79.size := Nat.le_trans Z_7 (Keep.of_wr W79).1
  have Z_9 : n0 ≤ h90.size := Nat.le_trans Z_8 (Keep.of_wr W90).1
  have Z_10 : n0 ≤ h101.size := Nat.le_trans Z_9 (Keep.of_wr W101).1
  have Z_11 : n0 ≤ h112.size := Nat.le_trans Z_10 (Keep.of_wr W112).1
  have Z_12 : n0 ≤ h123.size := Nat.le_trans Z_11 (Keep.of_wr W123).1
  have Z_13 : n0 ≤ h134.size := Nat.le_trans Z_12 (Keep.of_wr W134).1
  have Z_14 : n0 ≤ h145.size := Nat.le_trans Z_13 (Keep.of_wr W145).1
  have Z_15 : n0 ≤ h156.size := Nat.le_trans Z_14 (Keep.of_wr W156).1
  obtain ⟨_, T162, L162, X162, hQ162, st162⟩ := ocallV X156 hx hZ zm0 zm0 hown (ww hw 33 rfl) (ww hw 34 rfl) (notFace_of_selects (args := #[]) (mvT hZ (ww hw 36 rfl))) (ww hw 36 rfl) (ww hw 35 rfl) (by decide) (ww hw 37 rfl) (ww hw 3 rfl) e156 f163 (rm1_12 l Z a0 hw [] a115 a104 h156 n0 Z_15 f164 ha165 f166) (st := [(.ref a115)]) rfl 0 rfl (by decide) (pc := 130) (Ls := (lc4 p1 b2 10 a115 1)) hml rfl (lenOf pd_0 rfl) at_130 hby
  obtain ⟨rfl, N162q, e162⟩ := hQ162
  have N167 := Fr.app N157 N162q
  refine own_go (U' := T162.setTop (mkF m 135 (lc4 p1 b2 10 a115 1) [(.int 1), (.int 1)])) (fun t k => oicN X156 hx hby at_119 (by decide) (oiconst X156 hx hby at_122 (ogoto (pc := 123) X156 hx hby at_123 127 (by decide) (oistore X156 hx hby at_127 (lc4 p1 b2 10 a115 1) rfl (oaloadN X156 hx hby at_129 rfl rfl (st162 _ (oiload X162 hx hby at_133 rfl k))))))) ?_
  refine own_go (U' := T162.setTop (mkF m 143 (lc4 p1 b2 10 a115 1) [(.int 1)])) (fun t k => oicN X162 hx hby at_135 (by decide) (oiconst X162 hx hby at_138 (ogoto (pc := 139) X162 hx hby at_139 143 (by decide) k))) ?_
  obtain ⟨fs, hr, hrun, hended, hW, hsame⟩ := X162.leave (v := some (.int 1)) (fun h => by rw [Bd.returns] at h; cases h)
  refine own_out ⟨_, _, ?_, hrun, hended, _, _, rfl, ?_, ⟨_, rfl⟩, hW, hsame.mono (by decide) (by decide)⟩
  · exact retN X162 hx (t := .boolean) Bd.returns (by simp) (hb hby at_143) hr
  · exact ⟨rfl, N167⟩
set_option maxRecDepth 65536 in
set_option maxHeartbeats 40000000 in
theorem rm0_14 (l : Launch) (Z : State) (a0 : Array Value) (hw : ∀ d ∈ tables_1, d.before a0 Z = true) (ws : List Jvm.Cond) (p1 : Int32) (a4 : Addr) (a16 : Addr) (a27 : Addr) (a38 : Addr) (a49 : Addr) (a60 : Addr) (a71 : Addr) (a82 : Addr) (a93 : Addr) (a104 : Addr) (a115 : Addr) (a126 : Addr) (a137 : Addr) (a148 : Addr) (h0 : Heap) (n0 : Nat) (Z0 : n0 ≤ h0.size) (F5 : Sta Z h0 zs0 zs2 zs1 (.ref a4)) (F8 : Exa Z h0 a4 zs0) (F17 : Sta Z h0 zs0 zs3 zs1 (.ref a16)) (F20 : Exa Z h0 a16 zs0) (F28 : Sta Z h0 zs0 zs4 zs1 (.ref a27)) (F31 : Exa Z h0 a27 zs0) (F39 : Sta Z h0 zs0 zs5 zs1 (.ref a38)) (F42 : Exa Z h0 a38 zs0) (F50 : Sta Z h0 zs0 zs6 zs1 (.ref a49)) (F53 : Exa Z h0 a49 zs0) (F61 : Sta Z h0 zs0 zs7 zs1 (.ref a60)) (F64 : Exa Z h0 a60 zs0) (F72 : Sta Z h0 zs0 zs8 zs1 (.ref a71)) (F75 : Exa Z h0 a71 zs0) (F83 : Sta Z h0 zs0 zs9 zs1 (.ref a82)) (F86 : Exa Z h0 a82 zs0) (F94 : Sta Z h0 zs0 zs10 zs1 (.ref a93)) (F97 : Exa Z h0 a93 zs0) (F105 : Sta Z h0 zs0 "INVALID_JSON" zs1 (.ref a104)) (F108 : Exa Z h0 a104 zs0) (F116 : Sta Z h0 zs0 "INVALID_TEXT" zs1 (.ref a115)) (F119 : Exa Z h0 a115 zs0) (F127 : Sta Z h0 zs0 zs11 zs1 (.ref a126)) (F130 : Exa Z h0 a126 zs0) (F138 : Sta Z h0 zs0 zs12 zs1 (.ref a137)) (F141 : Exa Z h0 a137 zs0) (F149 : Sta Z h0 zs0 "UNKNOWN_ITEM" zs1 (.ref a148)) (F152 : Exa Z h0 a148 zs0) (hv159 : ((p1 &&& (2147483647 : Int32)) % (14 : Int32)) = (11 : Int32)) (ha165 : a126 ≠ a104) (ha167 : a126 ≠ a115) :
    MetFree l x (head1 (Jvm.Cond.code x code maxLocals ret :: ws) room_1) (fun a U => a = #[(.int p1)] ∧ Z.Warmed39 U.vm ∧ U.heap = h0) (fun _ _ _ _ _ => True) (fun _ U o U' => ∃ v L, o = .returned v ∧ QLaw n0 v U'.heap L ∧ FrameEnd U o U' L room_1.cells room_1.slots) := by
  refine MetFree.of_bodySF (plainFor_of_name pn_com_example_strict_ledger_strictledger_RefusalCodeIsAboutTextPinLaw) hisR ?_
  intro p e s m args below meth c s₁ Bd hml0 hP hK
  obtain ⟨rfl, hZ, hh⟩ := hP
  have hx := Bd.exec
  have hby := Bd.bytes
  have hml : c.maxLocals = 5 := hml0
  have hown : s.vm.findClass zs13 = some m.cls := findClass_of_methodNamed Bd.named
  have hnm := (name_of_methodNamed Bd.named Bd.method).1
  have X0 : Stand p l e room_1 s m #[(.int p1)] below meth c s₁ [] 0 0 := Stand.of_body Bd
  have e0 : s₁.heap = h0 := by rw [← hh, Bd.state]; rfl
  have N0 := Fr.nil n0
  refine own_pre (g' := mkF m 0 (lc0 p1) []) (ef_1 m p1) ?_
  obtain ⟨T2, h2, k2, X2, e2, E2, A2, B2, O2, st2⟩ := newRE X0 hx hZ hown (ww hw 0 rfl) (ww hw 1 rfl) e0 (g := (mkF m 2 (lc0 p1) [(.int 14)])) rfl (hb hby at_2) rfl (by decide) (cap := 14) (by decide) (by decide) (by decide) (by decide) (ad := zs14) (by decide)
  obtain ⟨b2, g2⟩ : ∃ z, z = h0.size := ⟨_, rfl⟩
  rw [← g2] at A2 B2 st2
  have f3 : Arv Z h2 b2 k2 (.object zs0) (14 : Int32) [] .null := Arv.new A2 (by decide)
  have f6 : Sta Z h2 zs0 zs2 zs1 (.ref a4) := (Sta.ext E2 F5)
  obtain ⟨T7, X7, e7, st7⟩ := getS2 X2 hx hZ hown (host := "") (Or.inl (ww hw 2 rfl)) Via.refl e2 f6 (g := (mkF m 7 (lc0 p1) [(.int 0), (.ref b2), (.ref b2)])) rfl (hb hby at_7)
  have f9 : Exa Z h2 a4 zs0 := (Exa.ext E2 F8)
  have f10 : Arv Z h2 b2 k2 (.object zs0) (14 : Int32) [.null] .null := f3.pad (pad_rep [] .null 1)
  obtain ⟨cl11, Ar11, q11, S11, N11, H11, G11⟩ := id f10
  have g13 : n0 ≤ b2 := Nat.le_trans Z0 (Nat.le_of_eq g2.symm)
  have hin12 : ¬ ((0 : Int32) < 0 ∨ cl11.slots.size ≤ ((0 : Int32)).toNatClampNeg) := inb_of S11 ⟨by decide, by decide⟩
  obtain ⟨T12, h12, X12, e12, W12, st12⟩ := stR X7 hx hZ e7 Ar11 (j := (0 : Int32)) hin12 rfl (Sto.ofV Ar11 q11 O2 (Ins.self f9)) (g := (mkF m 10 (lc0 p1) [(.ref a4), (.int 0), (.ref b2), (.ref b2)])) rfl rfl (hb hby at_10)
  have N14 := Fr.snoc X12 N0 g13
  have f15 : Arv Z h12 b2 k2 (.object zs0) (14 : Int32) [(.ref a4)] .null := Arv.set Ar11 q11 S11 N11 H11 G11 (by rfl) W12 0 rfl (Nat.le_of_ble_eq_true rfl)
  have f18 : Sta Z h12 zs0 zs3 zs1 (.ref a16) := (Sta.wr W12 (Sta.ext E2 F17))
  obtain ⟨T19, X19, e19, st19⟩ := getS2 X12 hx hZ hown (host := "") (Or.inl (ww hw 6 rfl)) Via.refl e12 f18 (g := (mkF m 13 (lc0 p1) [(.int 1), (.ref b2), (.ref b2)])) rfl (hb hby at_13)
  have f21 : Exa Z h12 a16 zs0 := (Exa.wr W12 (Exa.ext E2 F20))
  have f22 : Arv Z h12 b2 k2 (.object zs0) (14 : Int32) [(.ref a4), .null] .null := f15.pad (pad_rep [(.ref a4)] .null 1)
  obtain ⟨cl23, Ar23, q23, S23, N23, H23, G23⟩ := id f22
  have hin24 : ¬ ((1 : Int32) < 0 ∨ cl23.slots.size ≤ ((1 : Int32)).toNatClampNeg) := inb_of S23 ⟨by decide, by decide⟩
  obtain ⟨T24, h24, X24, e24, W24, st24⟩ := stR X19 hx hZ e19 Ar23 (j := (1 : Int32)) hin24 rfl (Sto.ofV Ar23 q23 O2 (Ins.self f21)) (g := (mkF m 16 (lc0 p1) [(.ref a16), (.int 1), (.ref b2), (.ref b2)])) rfl rfl (hb hby at_16)
  have N25 := Fr.snoc X24 N14 g13
  have f26 : Arv Z h24 b2 k2 (.object zs0) (14 : Int32) [(.ref a4), (.ref a16)] .null := Arv.set Ar23 q23 S23 N23 H23 G23 (by rfl) W24 1 rfl (Nat.le_of_ble_eq_true rfl)
  have f29 : Sta Z h24 zs0 zs4 zs1 (.ref a27) := (Sta.wr W24 (Sta.wr W12 (Sta.ext E2 F28)))
  obtain ⟨T30, X30, e30, st30⟩ := getS2 X24 hx hZ hown (host := "") (Or.inl (ww hw 8 rfl)) Via.refl e24 f29 (g := (mkF m 19 (lc0 p1) [(.int 2), (.ref b2), (.ref b2)])) rfl (hb hby at_19)
  have f32 : Exa Z h24 a27 zs0 := (Exa.wr W24 (Exa.wr W12 (Exa.ext E2 F31)))
  have f33 : Arv Z h24 b2 k2 (.object zs0) (14 : Int32) [(.ref a4), (.ref a16), .null] .null := f26.pad (pad_rep [(.ref a4), (.ref a16)] .null 1)
  obtain ⟨cl34, Ar34, q34, S34, N34, H34, G34⟩ := id f33
  have hin35 : ¬ ((2 : Int32) < 0 ∨ cl34.slots.size ≤ ((2 : Int32)).toNatClampNeg) := inb_of S34 ⟨by decide, by decide⟩
  obtain ⟨T35, h35, X35, e35, W35, st35⟩ := stR X30 hx hZ e30 Ar34 (j := (2 : Int32)) hin35 rfl (Sto.ofV Ar34 q34 O2 (Ins.self f32)) (g := (mkF m 22 (lc0 p1) [(.ref a27), (.int 2), (.ref b2), (.ref b2)])) rfl rfl (hb hby at_22)
  have N36 := Fr.snoc X35 N25 g13
  have f37 : Arv Z h35 b2 k2 (.object zs0) (14 : Int32) [(.ref a4), (.ref a16), (.ref a27)] .null := Arv.set Ar34 q34 S34 N34 H34 G34 (by rfl) W35 2 rfl (Nat.le_of_ble_eq_true rfl)
  have f40 : Sta Z h35 zs0 zs5 zs1 (.ref a38) := (Sta.wr W35 (Sta.wr W24 (Sta.wr W12 (Sta.ext E2 F39))))
  obtain ⟨T41, X41, e41, st41⟩ := getS2 X35 hx hZ hown (host := "") (Or.inl (ww hw 10 rfl)) Via.refl e35 f40 (g := (mkF m 25 (lc0 p1) [(.int 3), (.ref b2), (.ref b2)])) rfl (hb hby at_25)
  have f43 : Exa Z h35 a38 zs0 := (Exa.wr W35 (Exa.wr W24 (Exa.wr W12 (Exa.ext E2 F42))))
  have f44 : Arv Z h35 b2 k2 (.object zs0) (14 : Int32) [(.ref a4), (.ref a16), (.ref a27), .null] .null := f37.pad (pad_rep [(.ref a4), (.ref a16), (.ref a27)] .null 1)
  obtain ⟨cl45, Ar45, q45, S45, N45, H45, G45⟩ := id f44
  have hin46 : ¬ ((3 : Int32) < 0 ∨ cl45.slots.size ≤ ((3 : Int32)).toNatClampNeg) := inb_of S45 ⟨by decide, by decide⟩
  obtain ⟨T46, h46, X46, e46, W46, st46⟩ := stR X41 hx hZ e41 Ar45 (j := (3 : Int32)) hin46 rfl (Sto.ofV Ar45 q45 O2 (Ins.self f43)) (g := (mkF m 28 (lc0 p1) [(.ref a38), (.int 3), (.ref b2), (.ref b2)])) rfl rfl (hb hby at_28)
  have N47 := Fr.snoc X46 N36 g13
  have f48 : Arv Z h46 b2 k2 (.object zs0) (14 : Int32) [(.ref a4), (.ref a16), (.ref a27), (.ref a38)] .null := Arv.set Ar45 q45 S45 N45 H45 G45 (by rfl) W46 3 rfl (Nat.le_of_ble_eq_true rfl)
  have f51 : Sta Z h46 zs0 zs6 zs1 (.ref a49) := (Sta.wr W46 (Sta.wr W35 (Sta.wr W24 (Sta.wr W12 (Sta.ext E2 F50)))))
  obtain ⟨T52, X52, e52, st52⟩ := getS2 X46 hx hZ hown (host := "") (Or.inl (ww hw 12 rfl)) Via.refl e46 f51 (g := (mkF m 31 (lc0 p1) [(.int 4), (.ref b2), (.ref b2)])) rfl (hb hby at_31)
  have f54 : Exa Z h46 a49 zs0 := (Exa.wr W46 (Exa.wr W35 (Exa.wr W24 (Exa.wr W12 (Exa.ext E2 F53)))))
  have f55 : Arv Z h46 b2 k2 (.object zs0) (14 : Int32) [(.ref a4), (.ref a16), (.ref a27), (.ref a38), .null] .null := f48.pad (pad_rep [(.ref a4), (.ref a16), (.ref a27), (.ref a38)] .null 1)
  obtain ⟨cl56, Ar56, q56, S56, N56, H56, G56⟩ := id f55
  have hin57 : ¬ ((4 : Int32) < 0 ∨ cl56.slots.size ≤ ((4 : Int32)).toNatClampNeg) := inb_of S56 ⟨by decide, by decide⟩
  obtain ⟨T57, h57, X57, e57, W57, st57⟩ := stR X52 hx hZ e52 Ar56 (j := (4 : Int32)) hin57 rfl (Sto.ofV Ar56 q56 O2 (Ins.self f54)) (g := (mkF m 34 (lc0 p1) [(.ref a49), (.int 4), (.ref b2), (.ref b2)])) rfl rfl (hb hby at_34)
  have N58 := Fr.snoc X57 N47 g13
  have f59 : Arv Z h57 b2 k2 (.object zs0) (14 : Int32) [(.ref a4), (.ref a16), (.ref a27), (.ref a38), (.ref a49)] .null := Arv.set Ar56 q56 S56 N56 H56 G56 (by rfl) W57 4 rfl (Nat.le_of_ble_eq_true rfl)
  have f62 : Sta Z h57 zs0 zs7 zs1 (.ref a60) := (Sta.wr W57 (Sta.wr W46 (Sta.wr W35 (Sta.wr W24 (Sta.wr W12 (Sta.ext E2 F61))))))
  obtain ⟨T63, X63, e63, st63⟩ := getS2 X57 hx hZ hown (host := "") (Or.inl (ww hw 14 rfl)) Via.refl e57 f62 (g := (mkF m 37 (lc0 p1) [(.int 5), (.ref b2), (.ref b2)])) rfl (hb hby at_37)
  have f65 : Exa Z h57 a60 zs0 := (Exa.wr W57 (Exa.wr W46 (Exa.wr W35 (Exa.wr W24 (Exa.wr W12 (Exa.ext E2 F64))))))
  have f66 : Arv Z h57 b2 k2 (.object zs0) (14 : Int32) [(.ref a4), (.ref a16), (.ref a27), (.ref a38), (.ref a49), .null] .null := f59.pad (pad_rep [(.ref a4), (.ref a16), (.ref a27), (.ref a38), (.ref a49)] .null 1)
  obtain ⟨cl67, Ar67, q67, S67, N67, H67, G67⟩ := id f66
  have hin68 : ¬ ((5 : Int32) < 0 ∨ cl67.slots.size ≤ ((5 : Int32)).toNatClampNeg) := inb_of S67 ⟨by decide, by decide⟩
  obtain ⟨T68, h68, X68, e68, W68, st68⟩ := stR X63 hx hZ e63 Ar67 (j := (5 : Int32)) hin68 rfl (Sto.ofV Ar67 q67 O2 (Ins.self f65)) (g := (mkF m 40 (lc0 p1) [(.ref a60), (.int 5), (.ref b2), (.ref b2)])) rfl rfl (hb hby at_40)
  have N69 := Fr.snoc X68 N58 g13
  have f70 : Arv Z h68 b2 k2 (.object zs0) (14 : Int32) [(.ref a4), (.ref a16), (.ref a27), (.ref a38), (.ref a49), (.ref a60)] .null := Arv.set Ar67 q67 S67 N67 H67 G67 (by rfl) W68 5 rfl (Nat.le_of_ble_eq_true rfl)
  have f73 : Sta Z h68 zs0 zs8 zs1 (.ref a71) := (Sta.wr W68 (Sta.wr W57 (Sta.wr W46 (Sta.wr W35 (Sta.wr W24 (Sta.wr W12 (Sta.ext E2 F72)))))))
  obtain ⟨T74, X74, e74, st74⟩ := getS2 X68 hx hZ hown (host := "") (Or.inl (ww hw 16 rfl)) Via.refl e68 f73 (g := (mkF m 44 (lc0 p1) [(.int 6), (.ref b2), (.ref b2)])) rfl (hb hby at_44)
  have f76 : Exa Z h68 a71 zs0 := (Exa.wr W68 (Exa.wr W57 (Exa.wr W46 (Exa.wr W35 (Exa.wr W24 (Exa.wr W12 (Exa.ext E2 F75)))))))
  have f77 : Arv Z h68 b2 k2 (.object zs0) (14 : Int32) [(.ref a4), (.ref a16), (.ref a27), (.ref a38), (.ref a49), (.ref a60), .null] .null := f70.pad (pad_rep [(.ref a4), (.ref a16), (.ref a27), (.ref a38), (.ref a49), (.ref a60)] .null 1)
  obtain ⟨cl78, Ar78, q78, S78, N78, H78, G78⟩ := id f77
  have hin79 : ¬ ((6 : Int32) < 0 ∨ cl78.slots.size ≤ ((6 : Int32)).toNatClampNeg) := inb_of S78 ⟨by decide, by decide⟩
  obtain ⟨T79, h79, X79, e79, W79, st79⟩ := stR X74 hx hZ e74 Ar78 (j := (6 : Int32)) hin79 rfl (Sto.ofV Ar78 q78 O2 (Ins.self f76)) (g := (mkF m 47 (lc0 p1) [(.ref a71), (.int 6), (.ref b2), (.ref b2)])) rfl rfl (hb hby at_47)
  have N80 := Fr.snoc X79 N69 g13
  have f81 : Arv Z h79 b2 k2 (.object zs0) (14 : Int32) [(.ref a4), (.ref a16), (.ref a27), (.ref a38), (.ref a49), (.ref a60), (.ref a71)] .null := Arv.set Ar78 q78 S78 N78 H78 G78 (by rfl) W79 6 rfl (Nat.le_of_ble_eq_true rfl)
  have f84 : Sta Z h79 zs0 zs9 zs1 (.ref a82) := (Sta.wr W79 (Sta.wr W68 (Sta.wr W57 (Sta.wr W46 (Sta.wr W35 (Sta.wr W24 (Sta.wr W12 (Sta.ext E2 F83))))))))
  obtain ⟨T85, X85, e85, st85⟩ := getS2 X79 hx hZ hown (host := "") (Or.inl (ww hw 18 rfl)) Via.refl e79 f84 (g := (mkF m 51 (lc0 p1) [(.int 7), (.ref b2), (.ref b2)])) rfl (hb hby at_51)
  have f87 : Exa Z h79 a82 zs0 := (Exa.wr W79 (Exa.wr W68 (Exa.wr W57 (Exa.wr W46 (Exa.wr W35 (Exa.wr W24 (Exa.wr W12 (Exa.ext E2 F86))))))))
  have f88 : Arv Z h79 b2 k2 (.object zs0) (14 : Int32) [(.ref a4), (.ref a16), (.ref a27), (.ref a38), (.ref a49), (.ref a60), (.ref a71), .null] .null := f81.pad (pad_rep [(.ref a4), (.ref a16), (.ref a27), (.ref a38), (.ref a49), (.ref a60), (.ref a71)] .null 1)
  obtain ⟨cl89, Ar89, q89, S89, N89, H89, G89⟩ := id f88
  have hin90 : ¬ ((7 : Int32) < 0 ∨ cl89.slots.size ≤ ((7 : Int32)).toNatClampNeg) := inb_of S89 ⟨by decide, by decide⟩
  obtain ⟨T90, h90, X90, e90, W90, st90⟩ := stR X85 hx hZ e85 Ar89 (j := (7 : Int32)) hin90 rfl (Sto.ofV Ar89 q89 O2 (Ins.self f87)) (g := (mkF m 54 (lc0 p1) [(.ref a82), (.int 7), (.ref b2), (.ref b2)])) rfl rfl (hb hby at_54)
  have N91 := Fr.snoc X90 N80 g13
  have f92 : Arv Z h90 b2 k2 (.object zs0) (14 : Int32) [(.ref a4), (.ref a16), (.ref a27), (.ref a38), (.ref a49), (.ref a60), (.ref a71), (.ref a82)] .null := Arv.set Ar89 q89 S89 N89 H89 G89 (by rfl) W90 7 rfl (Nat.le_of_ble_eq_true rfl)
  have f95 : Sta Z h90 zs0 zs10 zs1 (.ref a93) := (Sta.wr W90 (Sta.wr W79 (Sta.wr W68 (Sta.wr W57 (Sta.wr W46 (Sta.wr W35 (Sta.wr W24 (Sta.wr W12 (Sta.ext E2 F94)))))))))
  obtain ⟨T96, X96, e96, st96⟩ := getS2 X90 hx hZ hown (host := "") (Or.inl (ww hw 20 rfl)) Via.refl e90 f95 (g := (mkF m 58 (lc0 p1) [(.int 8), (.ref b2), (.ref b2)])) rfl (hb hby at_58)
  have f98 : Exa Z h90 a93 zs0 := (Exa.wr W90 (Exa.wr W79 (Exa.wr W68 (Exa.wr W57 (Exa.wr W46 (Exa.wr W35 (Exa.wr W24 (Exa.wr W12 (Exa.ext E2 F97)))))))))
  have f99 : Arv Z h90 b2 k2 (.object zs0) (14 : Int32) [(.ref a4), (.ref a16), (.ref a27), (.ref a38), (.ref a49), (.ref a60), (.ref a71), (.ref a82), .null] .null := f92.pad (pad_rep [(.ref a4), (.ref a16), (.ref a27), (.ref a38), (.ref a49), (.ref a60), (.ref a71), (.ref a82)] .null 1)
  obtain ⟨cl100, Ar100, q100, S100, N100, H100, G100⟩ := id f99
  have hin101 : ¬ ((8 : Int32) < 0 ∨ cl100.slots.size ≤ ((8 : Int32)).toNatClampNeg) := inb_of S100 ⟨by decide, by decide⟩
  obtain ⟨T101, h101, X101, e101, W101, st101⟩ := stR X96 hx hZ e96 Ar100 (j := (8 : Int32)) hin101 rfl (Sto.ofV Ar100 q100 O2 (Ins.self f98)) (g := (mkF m 61 (lc0 p1) [(.ref a93), (.int 8), (.ref b2), (.ref b2)])) rfl rfl (hb hby at_61)
  have N102 := Fr.snoc X101 N91 g13
  have f103 : Arv Z h101 b2 k2 (.object zs0) (14 : Int32) [(.ref a4), (.ref a16), (.ref a27), (.ref a38), (.ref a49), (.ref a60), (.ref a71), (.ref a82), (.ref a93)] .null := Arv.set Ar100 q100 S100 N100 H100 G100 (by rfl) W101 8 rfl (Nat.le_of_ble_eq_true rfl)
  have f106 : Sta Z h101 zs0 "INVALID_JSON" zs1 (.ref a104) := (Sta.wr W101 (Sta.wr W90 (Sta.wr W79 (Sta.wr W68 (Sta.wr W57 (Sta.wr W46 (Sta.wr W35 (Sta.wr W24 (Sta.wr W12 (Sta.ext E2 F105))))))))))
  obtain ⟨T107, X107, e107, st107⟩ := getS2 X101 hx hZ hown (host := "") (Or.inl (ww hw 22 rfl)) Via.refl e101 f106 (g := (mkF m 65 (lc0 p1) [(.int 9), (.ref b2), (.ref b2)])) rfl (hb hby at_65)
  have f109 : Exa Z h101 a104 zs0 := (Exa.wr W101 (Exa.wr W90 (Exa.wr W79 (Exa.wr W68 (Exa.wr W57 (Exa.wr W46 (Exa.wr W35 (Exa.wr W24 (Exa.wr W12 (Exa.ext E2 F108))))))))))
  have f110 : Arv Z h101 b2 k2 (.object zs0) (14 : Int32) [(.ref a4), (.ref a16), (.ref a27), (.ref a38), (.ref a49), (.ref a60), (.ref a71), (.ref a82), (.ref a93), .null] .null := f103.pad (pad_rep [(.ref a4), (.ref a16), (.ref a27), (.ref a38), (.ref a49), (.ref a60), (.ref a71), (.ref a82), (.ref a93)] .null 1)
  obtain ⟨cl111, Ar111, q111, S111, N111, H111, G111⟩ := id f110
  have hin112 : ¬ ((9 : Int32) < 0 ∨ cl111.slots.size ≤ ((9 : Int32)).toNatClampNeg) := inb_of S111 ⟨by decide, by decide⟩
  obtain ⟨T112, h112, X112, e112, W112, st112⟩ := stR X107 hx hZ e107 Ar111 (j := (9 : Int32)) hin112 rfl (Sto.ofV Ar111 q111 O2 (Ins.self f109)) (g := (mkF m 68 (lc0 p1) [(.ref a104), (.int 9), (.ref b2), (.ref b2)])) rfl rfl (hb hby at_68)
  have N113 := Fr.snoc X112 N102 g13
  have f114 : Arv Z h112 b2 k2 (.object zs0) (14 : Int32) [(.ref a4), (.ref a16), (.ref a27), (.ref a38), (.ref a49), (.ref a60), (.ref a71), (.ref a82), (.ref a93), (.ref a104)] .null := Arv.set Ar111 q111 S111 N111 H111 G111 (by rfl) W112 9 rfl (Nat.le_of_ble_eq_true rfl)
  have f117 : Sta Z h112 zs0 "INVALID_TEXT" zs1 (.ref a115) := (Sta.wr W112 (Sta.wr W101 (Sta.wr W90 (Sta.wr W79 (Sta.wr W68 (Sta.wr W57 (Sta.wr W46 (Sta.wr W35 (Sta.wr W24 (Sta.wr W12 (Sta.ext E2 F116)))))))))))
  obtain ⟨T118, X118, e118, st118⟩ := getS2 X112 hx hZ hown (host := "") (Or.inl (ww hw 24 rfl)) Via.refl e112 f117 (g := (mkF m 72 (lc0 p1) [(.int 10), (.ref b2), (.ref b2)])) rfl (hb hby at_72)
  have f120 : Exa Z h112 a115 zs0 := (Exa.wr W112 (Exa.wr W101 (Exa.wr W90 (Exa.wr W79 (Exa.wr W68 (Exa.wr W57 (Exa.wr W46 (Exa.wr W35 (Exa.wr W24 (Exa.wr W12 (Exa.ext E2 F119)))))))))))
  have f121 : Arv Z h112 b2 k2 (.object zs0) (14 : Int32) [(.ref a4), (.ref a16), (.ref a27), (.ref a38), (.ref a49), (.ref a60), (.ref a71), (.ref a82), (.ref a93), (.ref a104), .null] .null := f114.pad (pad_rep [(.ref a4), (.ref a16), (.ref a27), (.ref a38), (.ref a49), (.ref a60), (.ref a71), (.ref a82), (.ref a93), (.ref a104)] .null 1)
  obtain ⟨cl122, Ar122, q122, S122, N122, H122, G122⟩ := id f121
  have hin123 : ¬ ((10 : Int32) < 0 ∨ cl122.slots.size ≤ ((10 : Int32)).toNatClampNeg) := inb_of S122 ⟨by decide, by decide⟩
  obtain ⟨T123, h123, X123, e123, W123, st123⟩ := stR X118 hx hZ e118 Ar122 (j := (10 : Int32)) hin123 rfl (Sto.ofV Ar122 q122 O2 (Ins.self f120)) (g := (mkF m 75 (lc0 p1) [(.ref a115), (.int 10), (.ref b2), (.ref b2)])) rfl rfl (hb hby at_75)
  have N124 := Fr.snoc X123 N113 g13
  have f125 : Arv Z h123 b2 k2 (.object zs0) (14 : Int32) [(.ref a4), (.ref a16), (.ref a27), (.ref a38), (.ref a49), (.ref a60), (.ref a71), (.ref a82), (.ref a93), (.ref a104), (.ref a115)] .null := Arv.set Ar122 q122 S122 N122 H122 G122 (by rfl) W123 10 rfl (Nat.le_of_ble_eq_true rfl)
  have f128 : Sta Z h123 zs0 zs11 zs1 (.ref a126) := (Sta.wr W123 (Sta.wr W112 (Sta.wr W101 (Sta.wr W90 (Sta.wr W79 (Sta.wr W68 (Sta.wr W57 (Sta.wr W46 (Sta.wr W35 (Sta.wr W24 (Sta.wr W12 (Sta.ext E2 F127))))))))))))
  obtain ⟨T129, X129, e129, st129⟩ := getS2 X123 hx hZ hown (host := "") (Or.inl (ww hw 26 rfl)) Via.refl e123 f128 (g := (mkF m 79 (lc0 p1) [(.int 11), (.ref b2), (.ref b2)])) rfl (hb hby at_79)
  have f131 : Exa Z h123 a126 zs0 := (Exa.wr W123 (Exa.wr W112 (Exa.wr W101 (Exa.wr W90 (Exa.wr W79 (Exa.wr W68 (Exa.wr W57 (Exa.wr W46 (Exa.wr W35 (Exa.wr W24 (Exa.wr W12 (Exa.ext E2 F130))))))))))))
  have f132 : Arv Z h123 b2 k2 (.object zs0) (14 : Int32) [(.ref a4), (.ref a16), (.ref a27), (.ref a38), (.ref a49), (.ref a60), (.ref a71), (.ref a82), (.ref a93), (.ref a104), (.ref a115), .null] .null := f125.pad (pad_rep [(.ref a4), (.ref a16), (.ref a27), (.ref a38), (.ref a49), (.ref a60), (.ref a71), (.ref a82), (.ref a93), (.ref a104), (.ref a115)] .null 1)
  obtain ⟨cl133, Ar133, q133, S133, N133, H133, G133⟩ := id f132
  have hin134 : ¬ ((11 : Int32) < 0 ∨ cl133.slots.size ≤ ((11 : Int32)).toNatClampNeg) := inb_of S133 ⟨by decide, by decide⟩
  obtain ⟨T134, h134, X134, e134, W134, st134⟩ := stR X129 hx hZ e129 Ar133 (j := (11 : Int32)) hin134 rfl (Sto.ofV Ar133 q133 O2 (Ins.self f131)) (g := (mkF m 82 (lc0 p1) [(.ref a126), (.int 11), (.ref b2), (.ref b2)])) rfl rfl (hb hby at_82)
  have N135 := Fr.snoc X134 N124 g13
  have f136 : Arv Z h134 b2 k2 (.object zs0) (14 : Int32) [(.ref a4), (.ref a16), (.ref a27), (.ref a38), (.ref a49), (.ref a60), (.ref a71), (.ref a82), (.ref a93), (.ref a104), (.ref a115), (.ref a126)] .null := Arv.set Ar133 q133 S133 N133 H133 G133 (by rfl) W134 11 rfl (Nat.le_of_ble_eq_true rfl)
  have f139 : Sta Z h134 zs0 zs12 zs1 (.ref a137) := (Sta.wr W134 (Sta.wr W123 (Sta.wr W112 (Sta.wr W101 (Sta.wr W90 (Sta.wr W79 (Sta.wr W68 (Sta.wr W57 (Sta.wr W46 (Sta.wr W35 (Sta.wr W24 (Sta.wr W12 (Sta.ext E2 F138)))))))))))))
  obtain ⟨T140, X140, e140, st140⟩ := getS2 X134 hx hZ hown (host := "") (Or.inl (ww hw 28 rfl)) Via.refl e134 f139 (g := (mkF m 86 (lc0 p1) [(.int 12), (.ref b2), (.ref b2)])) rfl (hb hby at_86)
  have f142 : Exa Z h134 a137 zs0 := (Exa.wr W134 (Exa.wr W123 (Exa.wr W112 (Exa.wr W101 (Exa.wr W90 (Exa.wr W79 (Exa.wr W68 (Exa.wr W57 (Exa.wr W46 (Exa.wr W35 (Exa.wr W24 (Exa.wr W12 (Exa.ext E2 F141)))))))))))))
  have f143 : Arv Z h134 b2 k2 (.object zs0) (14 : Int32) [(.ref a4), (.ref a16), (.ref a27), (.ref a38), (.ref a49), (.ref a60), (.ref a71), (.ref a82), (.ref a93), (.ref a104), (.ref a115), (.ref a126), .null] .null := f136.pad (pad_rep [(.ref a4), (.ref a16), (.ref a27), (.ref a38), (.ref a49), (.ref a60), (.ref a71), (.ref a82), (.ref a93), (.ref a104), (.ref a115), (.ref a126)] .null 1)
  obtain ⟨cl144, Ar144, q144, S144, N144, H144, G144⟩ := id f143
  have hin145 : ¬ ((12 : Int32) < 0 ∨ cl144.slots.size ≤ ((12 : Int32)).toNatClampNeg) := inb_of S144 ⟨by decide, by decide⟩
  obtain ⟨T145, h145, X145, e145, W145, st145⟩ := stR X140 hx hZ e140 Ar144 (j := (12 : Int32)) hin145 rfl (Sto.ofV Ar144 q144 O2 (Ins.self f142)) (g := (mkF m 89 (lc0 p1) [(.ref a137), (.int 12), (.ref b2), (.ref b2)])) rfl rfl (hb hby at_89)
  have N146 := Fr.snoc X145 N135 g13
  have f147 : Arv Z h145 b2 k2 (.object zs0) (14 : Int32) [(.ref a4), (.ref a16), (.ref a27), (.ref a38), (.ref a49), (.ref a60), (.ref a71), (.ref a82), (.ref a93), (.ref a104), (.ref a115), (.ref a126), (.ref a137)] .null := Arv.set Ar144 q144 S144 N144 H144 G144 (by rfl) W145 12 rfl (Nat.le_of_ble_eq_true rfl)
  have f150 : Sta Z h145 zs0 "UNKNOWN_ITEM" zs1 (.ref a148) := (Sta.wr W145 (Sta.wr W134 (Sta.wr W123 (Sta.wr W112 (Sta.wr W101 (Sta.wr W90 (Sta.wr W79 (Sta.wr W68 (Sta.wr W57 (Sta.wr W46 (Sta.wr W35 (Sta.wr W24 (Sta.wr W12 (Sta.ext E2 F149))))))))))))))
  obtain ⟨T151, X151, e151, st151⟩ := getS2 X145 hx hZ hown (host := "") (Or.inl (ww hw 30 rfl)) Via.refl e145 f150 (g := (mkF m 93 (lc0 p1) [(.int 13), (.ref b2), (.ref b2)])) rfl (hb hby at_93)
  have f153 : Exa Z h145 a148 zs0 := (Exa.wr W145 (Exa.wr W134 (Exa.wr W123 (Exa.wr W112 (Exa.wr W101 (Exa.wr W90 (Exa.wr W79 (Exa.wr W68 (Exa.wr W57 (Exa.wr W46 (Exa.wr W35 (Exa.wr W24 (Exa.wr W12 (Exa.ext E2 F152))))))))))))))
  have f154 : Arv Z h145 b2 k2 (.object zs0) (14 : Int32) [(.ref a4), (.ref a16), (.ref a27), (.ref a38), (.ref a49), (.ref a60), (.ref a71), (.ref a82), (.ref a93), (.ref a104), (.ref a115), (.ref a126), (.ref a137), .null] .null := f147.pad (pad_rep [(.ref a4), (.ref a16), (.ref a27), (.ref a38), (.ref a49), (.ref a60), (.ref a71), (.ref a82), (.ref a93), (.ref a104), (.ref a115), (.ref a126), (.ref a137)] .null 1)
  obtain ⟨cl155, Ar155, q155, S155, N155, H155, G155⟩ := id f154
  have hin156 : ¬ ((13 : Int32) < 0 ∨ cl155.slots.size ≤ ((13 : Int32)).toNatClampNeg) := inb_of S155 ⟨by decide, by decide⟩
  obtain ⟨T156, h156, X156, e156, W156, st156⟩ := stR X151 hx hZ e151 Ar155 (j := (13 : Int32)) hin156 rfl (Sto.ofV Ar155 q155 O2 (Ins.self f153)) (g := (mkF m 96 (lc0 p1) [(.ref a148), (.int 13), (.ref b2), (.ref b2)])) rfl rfl (hb hby at_96)
  have N157 := Fr.snoc X156 N146 g13
  have f158 : Arv Z h156 b2 k2 (.object zs0) (14 : Int32) [(.ref a4), (.ref a16), (.ref a27), (.ref a38), (.ref a49), (.ref a60), (.ref a71), (.ref a82), (.ref a93), (.ref a104), (.ref a115), (.ref a126), (.ref a137), (.ref a148)] .null := Arv.set Ar155 q155 S155 N155 H155 G155 (by rfl) W156 13 rfl (Nat.le_of_ble_eq_true rfl)
  refine own_go (U' := T156.setTop (mkF m 105 (lc1 p1 b2) [(.int ((p1 &&& (2147483647 : Int32)) % (14 : Int32)))])) (fun t k => obipush X0 hx hby at_0 (st2 _ (odup X2 hx hby at_5 rfl (oiconst X2 hx hby at_6 (st7 _ (st12 _ (odup X12 hx hby at_11 rfl (oiconst X12 hx hby at_12 (st19 _ (st24 _ (odup X24 hx hby at_17 rfl (oiconst X24 hx hby at_18 (st30 _ (st35 _ (odup X35 hx hby at_23 rfl (oiconst X35 hx hby at_24 (st41 _ (st46 _ (odup X46 hx hby at_29 rfl (oiconst X46 hx hby at_30 (st52 _ (st57 _ (odup X57 hx hby at_35 rfl (oiconst X57 hx hby at_36 (st63 _ (st68 _ (odup X68 hx hby at_41 rfl (obipush X68 hx hby at_42 (st74 _ (st79 _ (odup X79 hx hby at_48 rfl (obipush X79 hx hby at_49 (st85 _ (st90 _ (odup X90 hx hby at_55 rfl (obipush X90 hx hby at_56 (st96 _ (st101 _ (odup X101 hx hby at_62 rfl (obipush X101 hx hby at_63 (st107 _ (st112 _ (odup X112 hx hby at_69 rfl (obipush X112 hx hby at_70 (st118 _ (st123 _ (odup X123 hx hby at_76 rfl (obipush X123 hx hby at_77 (st129 _ (st134 _ (odup X134 hx hby at_83 rfl (obipush X134 hx hby at_84 (st140 _ (st145 _ (odup X145 hx hby at_90 rfl (obipush X145 hx hby at_91 (st151 _ (st156 _ (oastoreN X156 hx hby at_97 (lc1 p1 b2) rfl rfl (oiloadN X156 hx hby at_98 rfl (X156.ldcInt hx hown (mvT hZ (ww hw 32 rfl)) (g := (mkF m 99 (lc1 p1 b2) [(.int p1)])) rfl (hb hby at_99) _ (oiand X156 hx hby at_101 (obipush X156 hx hby at_102 (oirem X156 hx hby at_104 (by decide) k)))))))))))))))))))))))))))))))))))))))))))))))))))))))))))))))) ?_
  rw [hv159]
  obtain ⟨cl160, Ar160, q160, S160, N160, H160, G160⟩ := id f158
  have hin161 : ¬ ((11 : Int32) < 0 ∨ cl160.slots.size ≤ ((11 : Int32)).toNatClampNeg) := inb_of S160 ⟨by decide, by decide⟩
  have hat161 : cl160.slots[((11 : Int32)).toNatClampNeg]? = some (.ref a126) := Has.at H160 hin161 rfl
  refine own_go (U' := T156.setTop (mkF m 113 (lc3 p1 b2 11 a126) [(.int 9), (.int 11)])) (fun t k => oistoreN X156 hx hby at_105 (lc2 p1 b2 11) rfl (oaloadN X156 hx hby at_106 rfl rfl (oiloadN X156 hx hby at_107 rfl (X156.aaload hx (j := (11 : Int32)) (v := (.ref a126)) (by rw [e156]; exact Ar160.1) (State.isArrayOf_alike hZ.alike Ar160.2.1) rfl Ar160.2.2 hin161 hat161 (g := (mkF m 108 (lc2 p1 b2 11) [(.int 11), (.ref b2)])) rfl rfl (hb hby at_108) _ (oastoreN X156 hx hby at_109 (lc3 p1 b2 11 a126) rfl rfl (oiloadN X156 hx hby at_110 rfl (obipush X156 hx hby at_111 k))))))) ?_
  refine own_go (U' := T156.setTop (mkF m 119 (lc3 p1 b2 11 a126) [(.int 10), (.int 11)])) (fun t k => oicN X156 hx hby at_113 (by decide) (oiloadN X156 hx hby at_116 rfl (obipush X156 hx hby at_117 k))) ?_
  have f163 : Exa Z h156 a126 zs0 := (Exa.wr W156 (Exa.wr W145 (Exa.wr W134 f131)))
  have f164 : Sta Z h156 zs0 "INVALID_JSON" zs1 (.ref a104) := (Sta.wr W156 (Sta.wr W145 (Sta.wr W134 (Sta.wr W123 (Sta.wr W112 f106)))))
  have f166 : Sta Z h156 zs0 "INVALID_TEXT" zs1 (.ref a115) := (Sta.wr W156 (Sta.wr W145 (Sta.wr W134 (Sta.wr W123 f117))))
  have Z_1 : n0 ≤ h2.size := Nat.le_trans Z0 E2.1
  have Z_2 : n0 ≤ h12.size := Nat.le_trans Z_1 (Keep.of_wr W12).1
  have Z_3 : n0 ≤ h24.size := Nat.le_trans Z_2 (Keep.of_wr W24).1
  have Z_4 : n0 ≤ h35.size := Nat.le_trans Z_3 (Keep.of_wr W35).1
  have Z_5 : n0 ≤ h46.size := Nat.le_trans Z_4 (Keep.of_wr W46).1
  have Z_6 : n0 ≤ h57.size := Nat.le_trans Z_5 (Keep.of_wr W57).1
  have Z_7 : n0 ≤ h68.size := Nat.le_trans Z_6 (Keep.of_wr W68).1
  have Z_8 : n0 ≤ h79.size := Nat.le_trans Z_7 (Keep.of_wr W79).1
  have Z_9 : n0 ≤ h90.size := Nat.le_trans Z_8 (Keep.of_wr W90).1
  have Z_10 : n0 ≤ h101.size := Nat.le_trans Z_9 (Keep.of_wr W101).1
  have Z_11 : n0 ≤ h112.size := Nat.le_trans Z_10 (Keep.of_wr W112).1
  have Z_12 : n0 ≤ h123.size := Nat.le_trans Z_11 (Keep.of_wr W123).1
  have Z_13 : n0 ≤ h134.size := Nat.le_trans Z_12 (Keep.of_wr W134).1
  have Z_14 : n0 ≤ h145.size := Nat.le_trans Z_13 (Keep.of_wr W145).1
  have Z_15 : n0 ≤ h156.size := Nat.le_trans Z_14 (Keep.of_wr W156).1
  obtain ⟨_, T162, L162, X162, hQ162, st162⟩ := ocallV X156 hx hZ zm0 zm0 hown (ww hw 33 rfl) (ww hw 34 rfl) (notFace_of_selects (args := #[]) (mvT hZ (ww hw 36 rfl))) (ww hw 36 rfl) (ww hw 35 rfl) (by decide) (ww hw 37 rfl) (ww hw 3 rfl) e156 f163 (rm1_0 l Z a0 hw [] a126 a104 a115 h156 n0 Z_15 f164 ha165 f166 ha167) (st := [(.ref a126)]) rfl 0 rfl (by decide) (pc := 130) (Ls := (lc4 p1 b2 11 a126 0)) hml rfl (lenOf pd_0 rfl) at_130 hby
  obtain ⟨rfl, N162q, e162⟩ := hQ162
  have N168 := Fr.app N157 N162q
  refine own_go (U' := T162.setTop (mkF m 135 (lc4 p1 b2 11 a126 0) [(.int 0), (.int 0)])) (fun t k => oicY (pc := 119) X156 hx hby at_119 126 (by decide) (by decide) (oiconst X156 hx hby at_126 (oistore X156 hx hby at_127 (lc4 p1 b2 11 a126 0) rfl (oaloadN X156 hx hby at_129 rfl rfl (st162 _ (oiload X162 hx hby at_133 rfl k)))))) ?_
  refine own_go (U' := T162.setTop (mkF m 143 (lc4 p1 b2 11 a126 0) [(.int 1)])) (fun t k => oicN X162 hx hby at_135 (by decide) (oiconst X162 hx hby at_138 (ogoto (pc := 139) X162 hx hby at_139 143 (by decide) k))) ?_
  obtain ⟨fs, hr, hrun, hended, hW, hsame⟩ := X162.leave (v := some (.int 1)) (fun h => by rw [Bd.returns] at h; cases h)
  refine own_out ⟨_, _, ?_, hrun, hended, _, _, rfl, ?_, ⟨_, rfl⟩, hW, hsame.mono (by decide) (by decide)⟩
  · exact retN X162 hx (t := .boolean) Bd.returns (by simp) (hb hby at_143) hr
  · exact ⟨rfl, N168⟩
set_option maxRecDepth 65536 in
set_option maxHeartbeats 40000000 in
theorem rm0_15 (l : Launch) (Z : State) (a0 : Array Value) (hw : ∀ d ∈ tables_1, d.before a0 Z = true) (ws : List Jvm.Cond) (p1 : Int32) (a4 : Addr) (a16 : Addr) (a27 : Addr) (a38 : Addr) (a49 : Addr) (a60 : Addr) (a71 : Addr) (a82 : Addr) (a93 : Addr) (a104 : Addr) (a115 : Addr) (a126 : Addr) (a137 : Addr) (a148 : Addr) (h0 : Heap) (n0 : Nat) (Z0 : n0 ≤ h0.size) (F5 : Sta Z h0 zs0 zs2 zs1 (.ref a4)) (F8 : Exa Z h0 a4 zs0) (F17 : Sta Z h0 zs0 zs3 zs1 (.ref a16)) (F20 : Exa Z h0 a16 zs0) (F28 : Sta Z h0 zs0 zs4 zs1 (.ref a27)) (F31 : Exa Z h0 a27 zs0) (F39 : Sta Z h0 zs0 zs5 zs1 (.ref a38)) (F42 : Exa Z h0 a38 zs0) (F50 : Sta Z h0 zs0 zs6 zs1 (.ref a49)) (F53 : Exa Z h0 a49 zs0) (F61 : Sta Z h0 zs0 zs7 zs1 (.ref a60)) (F64 : Exa Z h0 a60 zs0) (F72 : Sta Z h0 zs0 zs8 zs1 (.ref a71)) (F75 : Exa Z h0 a71 zs0) (F83 : Sta Z h0 zs0 zs9 zs1 (.ref a82)) (F86 : Exa Z h0 a82 zs0) (F94 : Sta Z h0 zs0 zs10 zs1 (.ref a93)) (F97 : Exa Z h0 a93 zs0) (F105 : Sta Z h0 zs0 "INVALID_JSON" zs1 (.ref a104)) (F108 : Exa Z h0 a104 zs0) (F116 : Sta Z h0 zs0 "INVALID_TEXT" zs1 (.ref a115)) (F119 : Exa Z h0 a115 zs0) (F127 : Sta Z h0 zs0 zs11 zs1 (.ref a126)) (F130 : Exa Z h0 a126 zs0) (F138 : Sta Z h0 zs0 zs12 zs1 (.ref a137)) (F141 : Exa Z h0 a137 zs0) (F149 : Sta Z h0 zs0 "UNKNOWN_ITEM" zs1 (.ref a148)) (F152 : Exa Z h0 a148 zs0) (hv159 : ((p1 &&& (2147483647 : Int32)) % (14 : Int32)) = (12 : Int32)) (ha165 : a137 ≠ a104) (ha167 : a137 ≠ a115) :
    MetFree l x (head1 (Jvm.Cond.code x code maxLocals ret :: ws) room_1) (fun a U => a = #[(.int p1)] ∧ Z.Warmed39 U.vm ∧ U.heap = h0) (fun _ _ _ _ _ => True) (fun _ U o U' => ∃ v L, o = .returned v ∧ QLaw n0 v U'.heap L ∧ FrameEnd U o U' L room_1.cells room_1.slots) := by
  refine MetFree.of_bodySF (plainFor_of_name pn_com_example_strict_ledger_strictledger_RefusalCodeIsAboutTextPinLaw) hisR ?_
  intro p e s m args below meth c s₁ Bd hml0 hP hK
  obtain ⟨rfl, hZ, hh⟩ := hP
  have hx := Bd.exec
  have hby := Bd.bytes
  have hml : c.maxLocals = 5 := hml0
  have hown : s.vm.findClass zs13 = some m.cls := findClass_of_methodNamed Bd.named
  have hnm := (name_of_methodNamed Bd.named Bd.method).1
  have X0 : Stand p l e room_1 s m #[(.int p1)] below meth c s₁ [] 0 0 := Stand.of_body Bd
  have e0 : s₁.heap = h0 := by rw [← hh, Bd.state]; rfl
  have N0 := Fr.nil n0
  refine own_pre (g' := mkF m 0 (lc0 p1) []) (ef_1 m p1) ?_
  obtain ⟨T2, h2, k2, X2, e2, E2, A2, B2, O2, st2⟩ := newRE X0 hx hZ hown (ww hw 0 rfl) (ww hw 1 rfl) e0 (g := (mkF m 2 (lc0 p1) [(.int 14)])) rfl (hb hby at_2) rfl (by decide) (cap := 14) (by decide) (by decide) (by decide) (by decide) (ad := zs14) (by decide)
  obtain ⟨b2, g2⟩ : ∃ z, z = h0.size := ⟨_, rfl⟩
  rw [← g2] at A2 B2 st2
  have f3 : Arv Z h2 b2 k2 (.object zs0) (14 : Int32) [] .null := Arv.new A2 (by decide)
  have f6 : Sta Z h2 zs0 zs2 zs1 (.ref a4) := (Sta.ext E2 F5)
  obtain ⟨T7, X7, e7, st7⟩ := getS2 X2 hx hZ hown (host := "") (Or.inl (ww hw 2 rfl)) Via.refl e2 f6 (g := (mkF m 7 (lc0 p1) [(.int 0), (.ref b2), (.ref b2)])) rfl (hb hby at_7)
  have f9 : Exa Z h2 a4 zs0 := (Exa.ext E2 F8)
  have f10 : Arv Z h2 b2 k2 (.object zs0) (14 : Int32) [.null] .null := f3.pad (pad_rep [] .null 1)
  obtain ⟨cl11, Ar11, q11, S11, N11, H11, G11⟩ := id f10
  have g13 : n0 ≤ b2 := Nat.le_trans Z0 (Nat.le_of_eq g2.symm)
  have hin12 : ¬ ((0 : Int32) < 0 ∨ cl11.slots.size ≤ ((0 : Int32)).toNatClampNeg) := inb_of S11 ⟨by decide, by decide⟩
  obtain ⟨T12, h12, X12, e12, W12, st12⟩ := stR X7 hx hZ e7 Ar11 (j := (0 : Int32)) hin12 rfl (Sto.ofV Ar11 q11 O2 (Ins.self f9)) (g := (mkF m 10 (lc0 p1) [(.ref a4), (.int 0), (.ref b2), (.ref b2)])) rfl rfl (hb hby at_10)
  have N14 := Fr.snoc X12 N0 g13
  have f15 : Arv Z h12 b2 k2 (.object zs0) (14 : Int32) [(.ref a4)] .null := Arv.set Ar11 q11 S11 N11 H11 G11 (by rfl) W12 0 rfl (Nat.le_of_ble_eq_true rfl)
  have f18 : Sta Z h12 zs0 zs3 zs1 (.ref a16) := (Sta.wr W12 (Sta.ext E2 F17))
  obtain ⟨T19, X19, e19, st19⟩ := getS2 X12 hx hZ hown (host := "") (Or.inl (ww hw 6 rfl)) Via.refl e12 f18 (g := (mkF m 13 (lc0 p1) [(.int 1), (.ref b2), (.ref b2)])) rfl (hb hby at_13)
  have f21 : Exa Z h12 a16 zs0 := (Exa.wr W12 (Exa.ext E2 F20))
  have f22 : Arv Z h12 b2 k2 (.object zs0) (14 : Int32) [(.ref a4), .null] .null := f15.pad (pad_rep [(.ref a4)] .null 1)
  obtain ⟨cl23, Ar23, q23, S23, N23, H23, G23⟩ := id f22
  have hin24 : ¬ ((1 : Int32) < 0 ∨ cl23.slots.size ≤ ((1 : Int32)).toNatClampNeg) := inb_of S23 ⟨by decide, by decide⟩
  obtain ⟨T24, h24, X24, e24, W24, st24⟩ := stR X19 hx hZ e19 Ar23 (j := (1 : Int32)) hin24 rfl (Sto.ofV Ar23 q23 O2 (Ins.self f21)) (g := (mkF m 16 (lc0 p1) [(.ref a16), (.int 1), (.ref b2), (.ref b2)])) rfl rfl (hb hby at_16)
  have N25 := Fr.snoc X24 N14 g13
  have f26 : Arv Z h24 b2 k2 (.object zs0) (14 : Int32) [(.ref a4), (.ref a16)] .null := Arv.set Ar23 q23 S23 N23 H23 G23 (by rfl) W24 1 rfl (Nat.le_of_ble_eq_true rfl)
  have f29 : Sta Z h24 zs0 zs4 zs1 (.ref a27) := (Sta.wr W24 (Sta.wr W12 (Sta.ext E2 F28)))
  obtain ⟨T30, X30, e30, st30⟩ := getS2 X24 hx hZ hown (host := "") (Or.inl (ww hw 8 rfl)) Via.refl e24 f29 (g := (mkF m 19 (lc0 p1) [(.int 2), (.ref b2), (.ref b2)])) rfl (hb hby at_19)
  have f32 : Exa Z h24 a27 zs0 := (Exa.wr W24 (Exa.wr W12 (Exa.ext E2 F31)))
  have f33 : Arv Z h24 b2 k2 (.object zs0) (14 : Int32) [(.ref a4), (.ref a16), .null] .null := f26.pad (pad_rep [(.ref a4), (.ref a16)] .null 1)
  obtain ⟨cl34, Ar34, q34, S34, N34, H34, G34⟩ := id f33
  have hin35 : ¬ ((2 : Int32) < 0 ∨ cl34.slots.size ≤ ((2 : Int32)).toNatClampNeg) := inb_of S34 ⟨by decide, by decide⟩
  obtain ⟨T35, h35, X35, e35, W35, st35⟩ := stR X30 hx hZ e30 Ar34 (j := (2 : Int32)) hin35 rfl (Sto.ofV Ar34 q34 O2 (Ins.self f32)) (g := (mkF m 22 (lc0 p1) [(.ref a27), (.int 2), (.ref b2), (.ref b2)])) rfl rfl (hb hby at_22)
  have N36 := Fr.snoc X35 N25 g13
  have f37 : Arv Z h35 b2 k2 (.object zs0) (14 : Int32) [(.ref a4), (.ref a16), (.ref a27)] .null := Arv.set Ar34 q34 S34 N34 H34 G34 (by rfl) W35 2 rfl (Nat.le_of_ble_eq_true rfl)
  have f40 : Sta Z h35 zs0 zs5 zs1 (.ref a38) := (Sta.wr W35 (Sta.wr W24 (Sta.wr W12 (Sta.ext E2 F39))))
  obtain ⟨T41, X41, e41, st41⟩ := getS2 X35 hx hZ hown (host := "") (Or.inl (ww hw 10 rfl)) Via.refl e35 f40 (g := (mkF m 25 (lc0 p1) [(.int 3), (.ref b2), (.ref b2)])) rfl (hb hby at_25)
  have f43 : Exa Z h35 a38 zs0 := (Exa.wr W35 (Exa.wr W24 (Exa.wr W12 (Exa.ext E2 F42))))
  have f44 : Arv Z h35 b2 k2 (.object zs0) (14 : Int32) [(.ref a4), (.ref a16), (.ref a27), .null] .null := f37.pad (pad_rep [(.ref a4), (.ref a16), (.ref a27)] .null 1)
  obtain ⟨cl45, Ar45, q45, S45, N45, H45, G45⟩ := id f44
  have hin46 : ¬ ((3 : Int32) < 0 ∨ cl45.slots.size ≤ ((3 : Int32)).toNatClampNeg) := inb_of S45 ⟨by decide, by decide⟩
  obtain ⟨T46, h46, X46, e46, W46, st46⟩ := stR X41 hx hZ e41 Ar45 (j := (3 : Int32)) hin46 rfl (Sto.ofV Ar45 q45 O2 (Ins.self f43)) (g := (mkF m 28 (lc0 p1) [(.ref a38), (.int 3), (.ref b2), (.ref b2)])) rfl rfl (hb hby at_28)
  have N47 := Fr.snoc X46 N36 g13
  have f48 : Arv Z h46 b2 k2 (.object zs0) (14 : Int32) [(.ref a4), (.ref a16), (.ref a27), (.ref a38)] .null := Arv.set Ar45 q45 S45 N45 H45 G45 (by rfl) W46 3 rfl (Nat.le_of_ble_eq_true rfl)
  have f51 : Sta Z h46 zs0 zs6 zs1 (.ref a49) := (Sta.wr W46 (Sta.wr W35 (Sta.wr W24 (Sta.wr W12 (Sta.ext E2 F50)))))
  obtain ⟨T52, X52, e52, st52⟩ := getS2 X46 hx hZ hown (host := "") (Or.inl (ww hw 12 rfl)) Via.refl e46 f51 (g := (mkF m 31 (lc0 p1) [(.int 4), (.ref b2), (.ref b2)])) rfl (hb hby at_31)
  have f54 : Exa Z h46 a49 zs0 := (Exa.wr W46 (Exa.wr W35 (Exa.wr W24 (Exa.wr W12 (Exa.ext E2 F53)))))
  have f55 : Arv Z h46 b2 k2 (.object zs0) (14 : Int32) [(.ref a4), (.ref a16), (.ref a27), (.ref a38), .null] .null := f48.pad (pad_rep [(.ref a4), (.ref a16), (.ref a27), (.ref a38)] .null 1)
  obtain ⟨cl56, Ar56, q56, S56, N56, H56, G56⟩ := id f55
  have hin57 : ¬ ((4 : Int32) < 0 ∨ cl56.slots.size ≤ ((4 : Int32)).toNatClampNeg) := inb_of S56 ⟨by decide, by decide⟩
  obtain ⟨T57, h57, X57, e57, W57, st57⟩ := stR X52 hx hZ e52 Ar56 (j := (4 : Int32)) hin57 rfl (Sto.ofV Ar56 q56 O2 (Ins.self f54)) (g := (mkF m 34 (lc0 p1) [(.ref a49), (.int 4), (.ref b2), (.ref b2)])) rfl rfl (hb hby at_34)
  have N58 := Fr.snoc X57 N47 g13
  have f59 : Arv Z h57 b2 k2 (.object zs0) (14 : Int32) [(.ref a4), (.ref a16), (.ref a27), (.ref a38), (.ref a49)] .null := Arv.set Ar56 q56 S56 N56 H56 G56 (by rfl) W57 4 rfl (Nat.le_of_ble_eq_true rfl)
  have f62 : Sta Z h57 zs0 zs7 zs1 (.ref a60) := (Sta.wr W57 (Sta.wr W46 (Sta.wr W35 (Sta.wr W24 (Sta.wr W12 (Sta.ext E2 F61))))))
  obtain ⟨T63, X63, e63, st63⟩ := getS2 X57 hx hZ hown (host := "") (Or.inl (ww hw 14 rfl)) Via.refl e57 f62 (g := (mkF m 37 (lc0 p1) [(.int 5), (.ref b2), (.ref b2)])) rfl (hb hby at_37)
  have f65 : Exa Z h57 a60 zs0 := (Exa.wr W57 (Exa.wr W46 (Exa.wr W35 (Exa.wr W24 (Exa.wr W12 (Exa.ext E2 F64))))))
  have f66 : Arv Z h57 b2 k2 (.object zs0) (14 : Int32) [(.ref a4), (.ref a16), (.ref a27), (.ref a38), (.ref a49), .null] .null := f59.pad (pad_rep [(.ref a4), (.ref a16), (.ref a27), (.ref a38), (.ref a49)] .null 1)
  obtain ⟨cl67, Ar67, q67, S67, N67, H67, G67⟩ := id f66
  have hin68 : ¬ ((5 : Int32) < 0 ∨ cl67.slots.size ≤ ((5 : Int32)).toNatClampNeg) := inb_of S67 ⟨by decide, by decide⟩
  obtain ⟨T68, h68, X68, e68, W68, st68⟩ := stR X63 hx hZ e63 Ar67 (j := (5 : Int32)) hin68 rfl (Sto.ofV Ar67 q67 O2 (Ins.self f65)) (g := (mkF m 40 (lc0 p1) [(.ref a60), (.int 5), (.ref b2), (.ref b2)])) rfl rfl (hb hby at_40)
  have N69 := Fr.snoc X68 N58 g13
  have f70 : Arv Z h68 b2 k2 (.object zs0) (14 : Int32) [(.ref a4), (.ref a16), (.ref a27), (.ref a38), (.ref a49), (.ref a60)] .null := Arv.set Ar67 q67 S67 N67 H67 G67 (by rfl) W68 5 rfl (Nat.le_of_ble_eq_true rfl)
  have f73 : Sta Z h68 zs0 zs8 zs1 (.ref a71) := (Sta.wr W68 (Sta.wr W57 (Sta.wr W46 (Sta.wr W35 (Sta.wr W24 (Sta.wr W12 (Sta.ext E2 F72)))))))
  obtain ⟨T74, X74, e74, st74⟩ := getS2 X68 hx hZ hown (host := "") (Or.inl (ww hw 16 rfl)) Via.refl e68 f73 (g := (mkF m 44 (lc0 p1) [(.int 6), (.ref b2), (.ref b2)])) rfl (hb hby at_44)
  have f76 : Exa Z h68 a71 zs0 := (Exa.wr W68 (Exa.wr W57 (Exa.wr W46 (Exa.wr W35 (Exa.wr W24 (Exa.wr W12 (Exa.ext E2 F75)))))))
  have f77 : Arv Z h68 b2 k2 (.object zs0) (14 : Int32) [(.ref a4), (.ref a16), (.ref a27), (.ref a38), (.ref a49), (.ref a60), .null] .null := f70.pad (pad_rep [(.ref a4), (.ref a16), (.ref a27), (.ref a38), (.ref a49), (.ref a60)] .null 1)
  obtain ⟨cl78, Ar78, q78, S78, N78, H78, G78⟩ := id f77
  have hin79 : ¬ ((6 : Int32) < 0 ∨ cl78.slots.size ≤ ((6 : Int32)).toNatClampNeg) := inb_of S78 ⟨by decide, by decide⟩
  obtain ⟨T79, h79, X79, e79, W79, st79⟩ := stR X74 hx hZ e74 Ar78 (j := (6 : Int32)) hin79 rfl (Sto.ofV Ar78 q78 O2 (Ins.self f76)) (g := (mkF m 47 (lc0 p1) [(.ref a71), (.int 6), (.ref b2), (.ref b2)])) rfl rfl (hb hby at_47)
  have N80 := Fr.snoc X79 N69 g13
  have f81 : Arv Z h79 b2 k2 (.object zs0) (14 : Int32) [(.ref a4), (.ref a16), (.ref a27), (.ref a38), (.ref a49), (.ref a60), (.ref a71)] .null := Arv.set Ar78 q78 S78 N78 H78 G78 (by rfl) W79 6 rfl (Nat.le_of_ble_eq_true rfl)
  have f84 : Sta Z h79 zs0 zs9 zs1 (.ref a82) := (Sta.wr W79 (Sta.wr W68 (Sta.wr W57 (Sta.wr W46 (Sta.wr W35 (Sta.wr W24 (Sta.wr W12 (Sta.ext E2 F83))))))))
  obtain ⟨T85, X85, e85, st85⟩ := getS2 X79 hx hZ hown (host := "") (Or.inl (ww hw 18 rfl)) Via.refl e79 f84 (g := (mkF m 51 (lc0 p1) [(.int 7), (.ref b2), (.ref b2)])) rfl (hb hby at_51)
  have f87 : Exa Z h79 a82 zs0 := (Exa.wr W79 (Exa.wr W68 (Exa.wr W57 (Exa.wr W46 (Exa.wr W35 (Exa.wr W24 (Exa.wr W12 (Exa.ext E2 F86))))))))
  have f88 : Arv Z h79 b2 k2 (.object zs0) (14 : Int32) [(.ref a4), (.ref a16), (.ref a27), (.ref a38), (.ref a49), (.ref a60), (.ref a71), .null] .null := f81.pad (pad_rep [(.ref a4), (.ref a16), (.ref a27), (.ref a38), (.ref a49), (.ref a60), (.ref a71)] .null 1)
  obtain ⟨cl89, Ar89, q89, S89, N89, H89, G89⟩ := id f88
  have hin90 : ¬ ((7 : Int32) < 0 ∨ cl89.slots.size ≤ ((7 : Int32)).toNatClampNeg) := inb_of S89 ⟨by decide, by decide⟩
  obtain ⟨T90, h90, X90, e90, W90, st90⟩ := stR X85 hx hZ e85 Ar89 (j := (7 : Int32)) hin90 rfl (Sto.ofV Ar89 q89 O2 (Ins.self f87)) (g := (mkF m 54 (lc0 p1) [(.ref a82), (.int 7), (.ref b2), (.ref b2)])) rfl rfl (hb hby at_54)
  have N91 := Fr.snoc X90 N80 g13
  have f92 : Arv Z h90 b2 k2 (.object zs0) (14 : Int32) [(.ref a4), (.ref a16), (.ref a27), (.ref a38), (.ref a49), (.ref a60), (.ref a71), (.ref a82)] .null := Arv.set Ar89 q89 S89 N89 H89 G89 (by rfl) W90 7 rfl (Nat.le_of_ble_eq_true rfl)
  have f95 : Sta Z h90 zs0 zs10 zs1 (.ref a93) := (Sta.wr W90 (Sta.wr W79 (Sta.wr W68 (Sta.wr W57 (Sta.wr W46 (Sta.wr W35 (Sta.wr W24 (Sta.wr W12 (Sta.ext E2 F94)))))))))
  obtain ⟨T96, X96, e96, st96⟩ := getS2 X90 hx hZ hown (host := "") (Or.inl (ww hw 20 rfl)) Via.refl e90 f95 (g := (mkF m 58 (lc0 p1) [(.int 8), (.ref b2), (.ref b2)])) rfl (hb hby at_58)
  have f98 : Exa Z h90 a93 zs0 := (Exa.wr W90 (Exa.wr W79 (Exa.wr W68 (Exa.wr W57 (Exa.wr W46 (Exa.wr W35 (Exa.wr W24 (Exa.wr W12 (Exa.ext E2 F97)))))))))
  have f99 : Arv Z h90 b2 k2 (.object zs0) (14 : Int32) [(.ref a4), (.ref a16), (.ref a27), (.ref a38), (.ref a49), (.ref a60), (.ref a71), (.ref a82), .null] .null := f92.pad (pad_rep [(.ref a4), (.ref a16), (.ref a27), (.ref a38), (.ref a49), (.ref a60), (.ref a71), (.ref a82)] .null 1)
  obtain ⟨cl100, Ar100, q100, S100, N100, H100, G100⟩ := id f99
  have hin101 : ¬ ((8 : Int32) < 0 ∨ cl100.slots.size ≤ ((8 : Int32)).toNatClampNeg) := inb_of S100 ⟨by decide, by decide⟩
  obtain ⟨T101, h101, X101, e101, W101, st101⟩ := stR X96 hx hZ e96 Ar100 (j := (8 : Int32)) hin101 rfl (Sto.ofV Ar100 q100 O2 (Ins.self f98)) (g := (mkF m 61 (lc0 p1) [(.ref a93), (.int 8), (.ref b2), (.ref b2)])) rfl rfl (hb hby at_61)
  have N102 := Fr.snoc X101 N91 g13
  have f103 : Arv Z h101 b2 k2 (.object zs0) (14 : Int32) [(.ref a4), (.ref a16), (.ref a27), (.ref a38), (.ref a49), (.ref a60), (.ref a71), (.ref a82), (.ref a93)] .null := Arv.set Ar100 q100 S100 N100 H100 G100 (by rfl) W101 8 rfl (Nat.le_of_ble_eq_true rfl)
  have f106 : Sta Z h101 zs0 "INVALID_JSON" zs1 (.ref a104) := (Sta.wr W101 (Sta.wr W90 (Sta.wr W79 (Sta.wr W68 (Sta.wr W57 (Sta.wr W46 (Sta.wr W35 (Sta.wr W24 (Sta.wr W12 (Sta.ext E2 F105))))))))))
  obtain ⟨T107, X107, e107, st107⟩ := getS2 X101 hx hZ hown (host := "") (Or.inl (ww hw 22 rfl)) Via.refl e101 f106 (g := (mkF m 65 (lc0 p1) [(.int 9), (.ref b2), (.ref b2)])) rfl (hb hby at_65)
  have f109 : Exa Z h101 a104 zs0 := (Exa.wr W101 (Exa.wr W90 (Exa.wr W79 (Exa.wr W68 (Exa.wr W57 (Exa.wr W46 (Exa.wr W35 (Exa.wr W24 (Exa.wr W12 (Exa.ext E2 F108))))))))))
  have f110 : Arv Z h101 b2 k2 (.object zs0) (14 : Int32) [(.ref a4), (.ref a16), (.ref a27), (.ref a38), (.ref a49), (.ref a60), (.ref a71), (.ref a82), (.ref a93), .null] .null := f103.pad (pad_rep [(.ref a4), (.ref a16), (.ref a27), (.ref a38), (.ref a49), (.ref a60), (.ref a71), (.ref a82), (.ref a93)] .null 1)
  obtain ⟨cl111, Ar111, q111, S111, N111, H111, G111⟩ := id f110
  have hin112 : ¬ ((9 : Int32) < 0 ∨ cl111.slots.size ≤ ((9 : Int32)).toNatClampNeg) := inb_of S111 ⟨by decide, by decide⟩
  obtain ⟨T112, h112, X112, e112, W112, st112⟩ := stR X107 hx hZ e107 Ar111 (j := (9 : Int32)) hin112 rfl (Sto.ofV Ar111 q111 O2 (Ins.self f109)) (g := (mkF m 68 (lc0 p1) [(.ref a104), (.int 9), (.ref b2), (.ref b2)])) rfl rfl (hb hby at_68)
  have N113 := Fr.snoc X112 N102 g13
  have f114 : Arv Z h112 b2 k2 (.object zs0) (14 : Int32) [(.ref a4), (.ref a16), (.ref a27), (.ref a38), (.ref a49), (.ref a60), (.ref a71), (.ref a82), (.ref a93), (.ref a104)] .null := Arv.set Ar111 q111 S111 N111 H111 G111 (by rfl) W112 9 rfl (Nat.le_of_ble_eq_true rfl)
  have f117 : Sta Z h112 zs0 "INVALID_TEXT" zs1 (.ref a115) := (Sta.wr W112 (Sta.wr W101 (Sta.wr W90 (Sta.wr W79 (Sta.wr W68 (Sta.wr W57 (Sta.wr W46 (Sta.wr W35 (Sta.wr W24 (Sta.wr W12 (Sta.ext E2 F116)))))))))))
  obtain ⟨T118, X118, e118, st118⟩ := getS2 X112 hx hZ hown (host := "") (Or.inl (ww hw 24 rfl)) Via.refl e112 f117 (g := (mkF m 72 (lc0 p1) [(.int 10), (.ref b2), (.ref b2)])) rfl (hb hby at_72)
  have f120 : Exa Z h112 a115 zs0 := (Exa.wr W112 (Exa.wr W101 (Exa.wr W90 (Exa.wr W79 (Exa.wr W68 (Exa.wr W57 (Exa.wr W46 (Exa.wr W35 (Exa.wr W24 (Exa.wr W12 (Exa.ext E2 F119)))))))))))
  have f121 : Arv Z h112 b2 k2 (.object zs0) (14 : Int32) [(.ref a4), (.ref a16), (.ref a27), (.ref a38), (.ref a49), (.ref a60), (.ref a71), (.ref a82), (.ref a93), (.ref a104), .null] .null := f114.pad (pad_rep [(.ref a4), (.ref a16), (.ref a27), (.ref a38), (.ref a49), (.ref a60), (.ref a71), (.ref a82), (.ref a93), (.ref a104)] .null 1)
  obtain ⟨cl122, Ar122, q122, S122, N122, H122, G122⟩ := id f121
  have hin123 : ¬ ((10 : Int32) < 0 ∨ cl122.slots.size ≤ ((10 : Int32)).toNatClampNeg) := inb_of S122 ⟨by decide, by decide⟩
  obtain ⟨T123, h123, X123, e123, W123, st123⟩ := stR X118 hx hZ e118 Ar122 (j := (10 : Int32)) hin123 rfl (Sto.ofV Ar122 q122 O2 (Ins.self f120)) (g := (mkF m 75 (lc0 p1) [(.ref a115), (.int 10), (.ref b2), (.ref b2)])) rfl rfl (hb hby at_75)
  have N124 := Fr.snoc X123 N113 g13
  have f125 : Arv Z h123 b2 k2 (.object zs0) (14 : Int32) [(.ref a4), (.ref a16), (.ref a27), (.ref a38), (.ref a49), (.ref a60), (.ref a71), (.ref a82), (.ref a93), (.ref a104), (.ref a115)] .null := Arv.set Ar122 q122 S122 N122 H122 G122 (by rfl) W123 10 rfl (Nat.le_of_ble_eq_true rfl)
  have f128 : Sta Z h123 zs0 zs11 zs1 (.ref a126) := (Sta.wr W123 (Sta.wr W112 (Sta.wr W101 (Sta.wr W90 (Sta.wr W79 (Sta.wr W68 (Sta.wr W57 (Sta.wr W46 (Sta.wr W35 (Sta.wr W24 (Sta.wr W12 (Sta.ext E2 F127))))))))))))
  obtain ⟨T129, X129, e129, st129⟩ := getS2 X123 hx hZ hown (host := "") (Or.inl (ww hw 26 rfl)) Via.refl e123 f128 (g := (mkF m 79 (lc0 p1) [(.int 11), (.ref b2), (.ref b2)])) rfl (hb hby at_79)
  have f131 : Exa Z h123 a126 zs0 := (Exa.wr W123 (Exa.wr W112 (Exa.wr W101 (Exa.wr W90 (Exa.wr W79 (Exa.wr W68 (Exa.wr W57 (Exa.wr W46 (Exa.wr W35 (Exa.wr W24 (Exa.wr W12 (Exa.ext E2 F130))))))))))))
  have f132 : Arv Z h123 b2 k2 (.object zs0) (14 : Int32) [(.ref a4), (.ref a16), (.ref a27), (.ref a38), (.ref a49), (.ref a60), (.ref a71), (.ref a82), (.ref a93), (.ref a104), (.ref a115), .null] .null := f125.pad (pad_rep [(.ref a4), (.ref a16), (.ref a27), (.ref a38), (.ref a49), (.ref a60), (.ref a71), (.ref a82), (.ref a93), (.ref a104), (.ref a115)] .null 1)
  obtain ⟨cl133, Ar133, q133, S133, N133, H133, G133⟩ := id f132
  have hin134 : ¬ ((11 : Int32) < 0 ∨ cl133.slots.size ≤ ((11 : Int32)).toNatClampNeg) := inb_of S133 ⟨by decide, by decide⟩
  obtain ⟨T134, h134, X134, e134, W134, st134⟩ := stR X129 hx hZ e129 Ar133 (j := (11 : Int32)) hin134 rfl (Sto.ofV Ar133 q133 O2 (Ins.self f131)) (g := (mkF m 82 (lc0 p1) [(.ref a126), (.int 11), (.ref b2), (.ref b2)])) rfl rfl (hb hby at_82)
  have N135 := Fr.snoc X134 N124 g13
  have f136 : Arv Z h134 b2 k2 (.object zs0) (14 : Int32) [(.ref a4), (.ref a16), (.ref a27), (.ref a38), (.ref a49), (.ref a60), (.ref a71), (.ref a82), (.ref a93), (.ref a104), (.ref a115), (.ref a126)] .null := Arv.set Ar133 q133 S133 N133 H133 G133 (by rfl) W134 11 rfl (Nat.le_of_ble_eq_true rfl)
  have f139 : Sta Z h134 zs0 zs12 zs1 (.ref a137) := (Sta.wr W134 (Sta.wr W123 (Sta.wr W112 (Sta.wr W101 (Sta.wr W90 (Sta.wr W79 (Sta.wr W68 (Sta.wr W57 (Sta.wr W46 (Sta.wr W35 (Sta.wr W24 (Sta.wr W12 (Sta.ext E2 F138)))))))))))))
  obtain ⟨T140, X140, e140, st140⟩ := getS2 X134 hx hZ hown (host := "") (Or.inl (ww hw 28 rfl)) Via.refl e134 f139 (g := (mkF m 86 (lc0 p1) [(.int 12), (.ref b2), (.ref b2)])) rfl (hb hby at_86)
  have f142 : Exa Z h134 a137 zs0 := (Exa.wr W134 (Exa.wr W123 (Exa.wr W112 (Exa.wr W101 (Exa.wr W90 (Exa.wr W79 (Exa.wr W68 (Exa.wr W57 (Exa.wr W46 (Exa.wr W35 (Exa.wr W24 (Exa.wr W12 (Exa.ext E2 F141)))))))))))))
  have f143 : Arv Z h134 b2 k2 (.object zs0) (14 : Int32) [(.ref a4), (.ref a16), (.ref a27), (.ref a38), (.ref a49), (.ref a60), (.ref a71), (.ref a82), (.ref a93), (.ref a104), (.ref a115), (.ref a126), .null] .null := f136.pad (pad_rep [(.ref a4), (.ref a16), (.ref a27), (.ref a38), (.ref a49), (.ref a60), (.ref a71), (.ref a82), (.ref a93), (.ref a104), (.ref a115), (.ref a126)] .null 1)
  obtain ⟨cl144, Ar144, q144, S144, N144, H144, G144⟩ := id f143
  have hin145 : ¬ ((12 : Int32) < 0 ∨ cl144.slots.size ≤ ((12 : Int32)).toNatClampNeg) := inb_of S144 ⟨by decide, by decide⟩
  obtain ⟨T145, h145, X145, e145, W145, st145⟩ := stR X140 hx hZ e140 Ar144 (j := (12 : Int32)) hin145 rfl (Sto.ofV Ar144 q144 O2 (Ins.self f142)) (g := (mkF m 89 (lc0 p1) [(.ref a137), (.int 12), (.ref b2), (.ref b2)])) rfl rfl (hb hby at_89)
  have N146 := Fr.snoc X145 N135 g13
  have f147 : Arv Z h145 b2 k2 (.object zs0) (14 : Int32) [(.ref a4), (.ref a16), (.ref a27), (.ref a38), (.ref a49), (.ref a60), (.ref a71), (.ref a82), (.ref a93), (.ref a104), (.ref a115), (.ref a126), (.ref a137)] .null := Arv.set Ar144 q144 S144 N144 H144 G144 (by rfl) W145 12 rfl (Nat.le_of_ble_eq_true rfl)
  have f150 : Sta Z h145 zs0 "UNKNOWN_ITEM" zs1 (.ref a148) := (Sta.wr W145 (Sta.wr W134 (Sta.wr W123 (Sta.wr W112 (Sta.wr W101 (Sta.wr W90 (Sta.wr W79 (Sta.wr W68 (Sta.wr W57 (Sta.wr W46 (Sta.wr W35 (Sta.wr W24 (Sta.wr W12 (Sta.ext E2 F149))))))))))))))
  obtain ⟨T151, X151, e151, st151⟩ := getS2 X145 hx hZ hown (host := "") (Or.inl (ww hw 30 rfl)) Via.refl e145 f150 (g := (mkF m 93 (lc0 p1) [(.int 13), (.ref b2), (.ref b2)])) rfl (hb hby at_93)
  have f153 : Exa Z h145 a148 zs0 := (Exa.wr W145 (Exa.wr W134 (Exa.wr W123 (Exa.wr W112 (Exa.wr W101 (Exa.wr W90 (Exa.wr W79 (Exa.wr W68 (Exa.wr W57 (Exa.wr W46 (Exa.wr W35 (Exa.wr W24 (Exa.wr W12 (Exa.ext E2 F152))))))))))))))
  have f154 : Arv Z h145 b2 k2 (.object zs0) (14 : Int32) [(.ref a4), (.ref a16), (.ref a27), (.ref a38), (.ref a49), (.ref a60), (.ref a71), (.ref a82), (.ref a93), (.ref a104), (.ref a115), (.ref a126), (.ref a137), .null] .null := f147.pad (pad_rep [(.ref a4), (.ref a16), (.ref a27), (.ref a38), (.ref a49), (.ref a60), (.ref a71), (.ref a82), (.ref a93), (.ref a104), (.ref a115), (.ref a126), (.ref a137)] .null 1)
  obtain ⟨cl155, Ar155, q155, S155, N155, H155, G155⟩ := id f154
  have hin156 : ¬ ((13 : Int32) < 0 ∨ cl155.slots.size ≤ ((13 : Int32)).toNatClampNeg) := inb_of S155 ⟨by decide, by decide⟩
  obtain ⟨T156, h156, X156, e156, W156, st156⟩ := stR X151 hx hZ e151 Ar155 (j := (13 : Int32)) hin156 rfl (Sto.ofV Ar155 q155 O2 (Ins.self f153)) (g := (mkF m 96 (lc0 p1) [(.ref a148), (.int 13), (.ref b2), (.ref b2)])) rfl rfl (hb hby at_96)
  have N157 := Fr.snoc X156 N146 g13
  have f158 : Arv Z h156 b2 k2 (.object zs0) (14 : Int32) [(.ref a4), (.ref a16), (.ref a27), (.ref a38), (.ref a49), (.ref a60), (.ref a71), (.ref a82), (.ref a93), (.ref a104), (.ref a115), (.ref a126), (.ref a137), (.ref a148)] .null := Arv.set Ar155 q155 S155 N155 H155 G155 (by rfl) W156 13 rfl (Nat.le_of_ble_eq_true rfl)
  refine own_go (U' := T156.setTop (mkF m 105 (lc1 p1 b2) [(.int ((p1 &&& (2147483647 : Int32)) % (14 : Int32)))])) (fun t k => obipush X0 hx hby at_0 (st2 _ (odup X2 hx hby at_5 rfl (oiconst X2 hx hby at_6 (st7 _ (st12 _ (odup X12 hx hby at_11 rfl (oiconst X12 hx hby at_12 (st19 _ (st24 _ (odup X24 hx hby at_17 rfl (oiconst X24 hx hby at_18 (st30 _ (st35 _ (odup X35 hx hby at_23 rfl (oiconst X35 hx hby at_24 (st41 _ (st46 _ (odup X46 hx hby at_29 rfl (oiconst X46 hx hby at_30 (st52 _ (st57 _ (odup X57 hx hby at_35 rfl (oiconst X57 hx hby at_36 (st63 _ (st68 _ (odup X68 hx hby at_41 rfl (obipush X68 hx hby at_42 (st74 _ (st79 _ (odup X79 hx hby at_48 rfl (obipush X79 hx hby at_49 (st85 _ (st90 _ (odup X90 hx hby at_55 rfl (obipush X90 hx hby at_56 (st96 _ (st101 _ (odup X101 hx hby at_62 rfl (obipush X101 hx hby at_63 (st107 _ (st112 _ (odup X112 hx hby at_69 rfl (obipush X112 hx hby at_70 (st118 _ (st123 _ (odup X123 hx hby at_76 rfl (obipush X123 hx hby at_77 (st129 _ (st134 _ (odup X134 hx hby at_83 rfl (obipush X134 hx hby at_84 (st140 _ (st145 _ (odup X145 hx hby at_90 rfl (obipush X145 hx hby at_91 (st151 _ (st156 _ (oastoreN X156 hx hby at_97 (lc1 p1 b2) rfl rfl (oiloadN X156 hx hby at_98 rfl (X156.ldcInt hx hown (mvT hZ (ww hw 32 rfl)) (g := (mkF m 99 (lc1 p1 b2) [(.int p1)])) rfl (hb hby at_99) _ (oiand X156 hx hby at_101 (obipush X156 hx hby at_102 (oirem X156 hx hby at_104 (by decide) k)))))))))))))))))))))))))))))))))))))))))))))))))))))))))))))))) ?_
  rw [hv159]
  obtain ⟨cl160, Ar160, q160, S160, N160, H160, G160⟩ := id f158
  have hin161 : ¬ ((12 : Int32) < 0 ∨ cl160.slots.size ≤ ((12 : Int32)).toNatClampNeg) := inb_of S160 ⟨by decide, by decide⟩
  have hat161 : cl160.slots[((12 : Int32)).toNatClampNeg]? = some (.ref a137) := Has.at H160 hin161 rfl
  refine own_go (U' := T156.setTop (mkF m 113 (lc3 p1 b2 12 a137) [(.int 9), (.int 12)])) (fun t k => oistoreN X156 hx hby at_105 (lc2 p1 b2 12) rfl (oaloadN X156 hx hby at_106 rfl rfl (oiloadN X156 hx hby at_107 rfl (X156.aaload hx (j := (12 : Int32)) (v := (.ref a137)) (by rw [e156]; exact Ar160.1) (State.isArrayOf_alike hZ.alike Ar160.2.1) rfl Ar160.2.2 hin161 hat161 (g := (mkF m 108 (lc2 p1 b2 12) [(.int 12), (.ref b2)])) rfl rfl (hb hby at_108) _ (oastoreN X156 hx hby at_109 (lc3 p1 b2 12 a137) rfl rfl (oiloadN X156 hx hby at_110 rfl (obipush X156 hx hby at_111 k))))))) ?_
  refine own_go (U' := T156.setTop (mkF m 119 (lc3 p1 b2 12 a137) [(.int 10), (.int 12)])) (fun t k => oicN X156 hx hby at_113 (by decide) (oiloadN X156 hx hby at_116 rfl (obipush X156 hx hby at_117 k))) ?_
  have f163 : Exa Z h156 a137 zs0 := (Exa.wr W156 (Exa.wr W145 f142))
  have f164 : Sta Z h156 zs0 "INVALID_JSON" zs1 (.ref a104) := (Sta.wr W156 (Sta.wr W145 (Sta.wr W134 (Sta.wr W123 (Sta.wr W112 f106)))))
  have f166 : Sta Z h156 zs0 "INVALID_TEXT" zs1 (.ref a115) := (Sta.wr W156 (Sta.wr W145 (Sta.wr W134 (Sta.wr W123 f117))))
  have Z_1 : n0 ≤ h2.size := Nat.le_trans Z0 E2.1
  have Z_2 : n0 ≤ h12.size := Nat.le_trans Z_1 (Keep.of_wr W12).1
  have Z_3 : n0 ≤ h24.size := Nat.le_trans Z_2 (Keep.of_wr W24).1
  have Z_4 : n0 ≤ h35.size := Nat.le_trans Z_3 (Keep.of_wr W35).1
  have Z_5 : n0 ≤ h46.size := Nat.le_trans Z_4 (Keep.of_wr W46).1
  have Z_6 : n0 ≤ h57.size := Nat.le_trans Z_5 (Keep.of_wr W57).1
  have Z_7 : n0 ≤ h68.size := Nat.le_trans Z_6 (Keep.of_wr W68).1
  have Z_8 : n0 ≤ h79.size := Nat.le_trans Z_7 (Keep.of_wr W79).1
  have Z_9 : n0 ≤ h90.size := Nat.le_trans Z_8 (Keep.of_wr W90).1
  have Z_10 : n0 ≤ h101.size := Nat.le_trans Z_9 (Keep.of_wr W101).1
  have Z_11 : n0 ≤ h112.size := Nat.le_trans Z_10 (Keep.of_wr W112).1
  have Z_12 : n0 ≤ h123.size := Nat.le_trans Z_11 (Keep.of_wr W123).1
  have Z_13 : n0 ≤ h134.size := Nat.le_trans Z_12 (Keep.of_wr W134).1
  have Z_14 : n0 ≤ h145.size := Nat.le_trans Z_13 (Keep.of_wr W145).1
  have Z_15 : n0 ≤ h156.size := Nat.le_trans Z_14 (Keep.of_wr W156).1
  obtain ⟨_, T162, L162, X162, hQ162, st162⟩ := ocallV X156 hx hZ zm0 zm0 hown (ww hw 33 rfl) (ww hw 34 rfl) (notFace_of_selects (args := #[]) (mvT hZ (ww hw 36 rfl))) (ww hw 36 rfl) (ww hw 35 rfl) (by decide) (ww hw 37 rfl) (ww hw 3 rfl) e156 f163 (rm1_0 l Z a0 hw [] a137 a104 a115 h156 n0 Z_15 f164 ha165 f166 ha167) (st := [(.ref a137)]) rfl 0 rfl (by decide) (pc := 130) (Ls := (lc4 p1 b2 12 a137 0)) hml rfl (lenOf pd_0 rfl) at_130 hby
  obtain ⟨rfl, N162q, e162⟩ := hQ162
  have N168 := Fr.app N157 N162q
  refine own_go (U' := T162.setTop (mkF m 135 (lc4 p1 b2 12 a137 0) [(.int 0), (.int 0)])) (fun t k => oicY (pc := 119) X156 hx hby at_119 126 (by decide) (by decide) (oiconst X156 hx hby at_126 (oistore X156 hx hby at_127 (lc4 p1 b2 12 a137 0) rfl (oaloadN X156 hx hby at_129 rfl rfl (st162 _ (oiload X162 hx hby at_133 rfl k)))))) ?_
  refine own_go (U' := T162.setTop (mkF m 143 (lc4 p1 b2 12 a137 0) [(.int 1)])) (fun t k => oicN X162 hx hby at_135 (by decide) (oiconst X162 hx hby at_138 (ogoto (pc := 139) X162 hx hby at_139 143 (by decide) k))) ?_
  obtain ⟨fs, hr, hrun, hended, hW, hsame⟩ := X162.leave (v := some (.int 1)) (fun h => by rw [Bd.returns] at h; cases h)
  refine own_out ⟨_, _, ?_, hrun, hended, _, _, rfl, ?_, ⟨_, rfl⟩, hW, hsame.mono (by decide) (by decide)⟩
  · exact retN X162 hx (t := .boolean) Bd.returns (by simp) (hb hby at_143) hr
  · exact ⟨rfl, N168⟩
set_option maxRecDepth 65536 in
set_option maxHeartbeats 40000000 in
theorem rm0_16 (l : Launch) (Z : State) (a0 : Array Value) (hw : ∀ d ∈ tables_1, d.before a0 Z = true) (ws : List Jvm.Cond) (p1 : Int32) (a4 : Addr) (a16 : Addr) (a27 : Addr) (a38 : Addr) (a49 : Addr) (a60 : Addr) (a71 : Addr) (a82 : Addr) (a93 : Addr) (a104 : Addr) (a115 : Addr) (a126 : Addr) (a137 : Addr) (a148 : Addr) (h0 : Heap) (n0 : Nat) (Z0 : n0 ≤ h0.size) (F5 : Sta Z h0 zs0 zs2 zs1 (.ref a4)) (F8 : Exa Z h0 a4 zs0) (F17 : Sta Z h0 zs0 zs3 zs1 (.ref a16)) (F20 : Exa Z h0 a16 zs0) (F28 : Sta Z h0 zs0 zs4 zs1 (.ref a27)) (F31 : Exa Z h0 a27 zs0) (F39 : Sta Z h0 zs0 zs5 zs1 (.ref a38)) (F42 : Exa Z h0 a38 zs0) (F50 : Sta Z h0 zs0 zs6 zs1 (.ref a49)) (F53 : Exa Z h0 a49 zs0) (F61 : Sta Z h0 zs0 zs7 zs1 (.ref a60)) (F64 : Exa Z h0 a60 zs0) (F72 : Sta Z h0 zs0 zs8 zs1 (.ref a71)) (F75 : Exa Z h0 a71 zs0) (F83 : Sta Z h0 zs0 zs9 zs1 (.ref a82)) (F86 : Exa Z h0 a82 zs0) (F94 : Sta Z h0 zs0 zs10 zs1 (.ref a93)) (F97 : Exa Z h0 a93 zs0) (F105 : Sta Z h0 zs0 "INVALID_JSON" zs1 (.ref a104)) (F108 : Exa Z h0 a104 zs0) (F116 : Sta Z h0 zs0 "INVALID_TEXT" zs1 (.ref a115)) (F119 : Exa Z h0 a115 zs0) (F127 : Sta Z h0 zs0 zs11 zs1 (.ref a126)) (F130 : Exa Z h0 a126 zs0) (F138 : Sta Z h0 zs0 zs12 zs1 (.ref a137)) (F141 : Exa Z h0 a137 zs0) (F149 : Sta Z h0 zs0 "UNKNOWN_ITEM" zs1 (.ref a148)) (F152 : Exa Z h0 a148 zs0) (hv159 : ((p1 &&& (2147483647 : Int32)) % (14 : Int32)) = (13 : Int32)) (ha165 : a148 ≠ a104) (ha167 : a148 ≠ a115) :
    MetFree l x (head1 (Jvm.Cond.code x code maxLocals ret :: ws) room_1) (fun a U => a = #[(.int p1)] ∧ Z.Warmed39 U.vm ∧ U.heap = h0) (fun _ _ _ _ _ => True) (fun _ U o U' => ∃ v L, o = .returned v ∧ QLaw n0 v U'.heap L ∧ FrameEnd U o U' L room_1.cells room_1.slots) := by
  refine MetFree.of_bodySF (plainFor_of_name pn_com_example_strict_ledger_strictledger_RefusalCodeIsAboutTextPinLaw) hisR ?_
  intro p e s m args below meth c s₁ Bd hml0 hP hK
  obtain ⟨rfl, hZ, hh⟩ := hP
  have hx := Bd.exec
  have hby := Bd.bytes
  have hml : c.maxLocals = 5 := hml0
  have hown : s.vm.findClass zs13 = some m.cls := findClass_of_methodNamed Bd.named
  have hnm := (name_of_methodNamed Bd.named Bd.method).1
  have X0 : Stand p l e room_1 s m #[(.int p1)] below meth c s₁ [] 0 0 := Stand.of_body Bd
  have e0 : s₁.heap = h0 := by rw [← hh, Bd.state]; rfl
  have N0 := Fr.nil n0
  refine own_pre (g' := mkF m 0 (lc0 p1) []) (ef_1 m p1) ?_
  obtain ⟨T2, h2, k2, X2, e2, E2, A2, B2, O2, st2⟩ := newRE X0 hx hZ hown (ww hw 0 rfl) (ww hw 1 rfl) e0 (g := (mkF m 2 (lc0 p1) [(.int 14)])) rfl (hb hby at_2) rfl (by decide) (cap := 14) (by decide) (by decide) (by decide) (by decide) (ad := zs14) (by decide)
  obtain ⟨b2, g2⟩ : ∃ z, z = h0.size := ⟨_, rfl⟩
  rw [← g2] at A2 B2 st2
  have f3 : Arv Z h2 b2 k2 (.object zs0) (14 : Int32) [] .null := Arv.new A2 (by decide)
  have f6 : Sta Z h2 zs0 zs2 zs1 (.ref a4) := (Sta.ext E2 F5)
  obtain ⟨T7, X7, e7, st7⟩ := getS2 X2 hx hZ hown (host := "") (Or.inl (ww hw 2 rfl)) Via.refl e2 f6 (g := (mkF m 7 (lc0 p1) [(.int 0), (.ref b2), (.ref b2)])) rfl (hb hby at_7)
  have f9 : Exa Z h2 a4 zs0 := (Exa.ext E2 F8)
  have f10 : Arv Z h2 b2 k2 (.object zs0) (14 : Int32) [.null] .null := f3.pad (pad_rep [] .null 1)
  obtain ⟨cl11, Ar11, q11, S11, N11, H11, G11⟩ := id f10
  have g13 : n0 ≤ b2 := Nat.le_trans Z0 (Nat.le_of_eq g2.symm)
  have hin12 : ¬ ((0 : Int32) < 0 ∨ cl11.slots.size ≤ ((0 : Int32)).toNatClampNeg) := inb_of S11 ⟨by decide, by decide⟩
  obtain ⟨T12, h12, X12, e12, W12, st12⟩ := stR X7 hx hZ e7 Ar11 (j := (0 : Int32)) hin12 rfl (Sto.ofV Ar11 q11 O2 (Ins.self f9)) (g := (mkF m 10 (lc0 p1) [(.ref a4), (.int 0), (.ref b2), (.ref b2)])) rfl rfl (hb hby at_10)
  have N14 := Fr.snoc X12 N0 g13
  have f15 : Arv Z h12 b2 k2 (.object zs0) (14 : Int32) [(.ref a4)] .null := Arv.set Ar11 q11 S11 N11 H11 G11 (by rfl) W12 0 rfl (Nat.le_of_ble_eq_true rfl)
  have f18 : Sta Z h12 zs0 zs3 zs1 (.ref a16) := (Sta.wr W12 (Sta.ext E2 F17))
  obtain ⟨T19, X19, e19, st19⟩ := getS2 X12 hx hZ hown (host := "") (Or.inl (ww hw 6 rfl)) Via.refl e12 f18 (g := (mkF m 13 (lc0 p1) [(.int 1), (.ref b2), (.ref b2)])) rfl (hb hby at_13)
  have f21 : Exa Z h12 a16 zs0 := (Exa.wr W12 (Exa.ext E2 F20))
  have f22 : Arv Z h12 b2 k2 (.object zs0) (14 : Int32) [(.ref a4), .null] .null := f15.pad (pad_rep [(.ref a4)] .null 1)
  obtain ⟨cl23, Ar23, q23, S23, N23, H23, G23⟩ := id f22
  have hin24 : ¬ ((1 : Int32) < 0 ∨ cl23.slots.size ≤ ((1 : Int32)).toNatClampNeg) := inb_of S23 ⟨by decide, by decide⟩
  obtain ⟨T24, h24, X24, e24, W24, st24⟩ := stR X19 hx hZ e19 Ar23 (j := (1 : Int32)) hin24 rfl (Sto.ofV Ar23 q23 O2 (Ins.self f21)) (g := (mkF m 16 (lc0 p1) [(.ref a16), (.int 1), (.ref b2), (.ref b2)])) rfl rfl (hb hby at_16)
  have N25 := Fr.snoc X24 N14 g13
  have f26 : Arv Z h24 b2 k2 (.object zs0) (14 : Int32) [(.ref a4), (.ref a16)] .null := Arv.set Ar23 q23 S23 N23 H23 G23 (by rfl) W24 1 rfl (Nat.le_of_ble_eq_true rfl)
  have f29 : Sta Z h24 zs0 zs4 zs1 (.ref a27) := (Sta.wr W24 (Sta.wr W12 (Sta.ext E2 F28)))
  obtain ⟨T30, X30, e30, st30⟩ := getS2 X24 hx hZ hown (host := "") (Or.inl (ww hw 8 rfl)) Via.refl e24 f29 (g := (mkF m 19 (lc0 p1) [(.int 2), (.ref b2), (.ref b2)])) rfl (hb hby at_19)
  have f32 : Exa Z h24 a27 zs0 := (Exa.wr W24 (Exa.wr W12 (Exa.ext E2 F31)))
  have f33 : Arv Z h24 b2 k2 (.object zs0) (14 : Int32) [(.ref a4), (.ref a16), .null] .null := f26.pad (pad_rep [(.ref a4), (.ref a16)] .null 1)
  obtain ⟨cl34, Ar34, q34, S34, N34, H34, G34⟩ := id f33
  have hin35 : ¬ ((2 : Int32) < 0 ∨ cl34.slots.size ≤ ((2 : Int32)).toNatClampNeg) := inb_of S34 ⟨by decide, by decide⟩
  obtain ⟨T35, h35, X35, e35, W35, st35⟩ := stR X30 hx hZ e30 Ar34 (j := (2 : Int32)) hin35 rfl (Sto.ofV Ar34 q34 O2 (Ins.self f32)) (g := (mkF m 22 (lc0 p1) [(.ref a27), (.int 2), (.ref b2), (.ref b2)])) rfl rfl (hb hby at_22)
  have N36 := Fr.snoc X35 N25 g13
  have f37 : Arv Z h35 b2 k2 (.object zs0) (14 : Int32) [(.ref a4), (.ref a16), (.ref a27)] .null := Arv.set Ar34 q34 S34 N34 H34 G34 (by rfl) W35 2 rfl (Nat.le_of_ble_eq_true rfl)
  have f40 : Sta Z h35 zs0 zs5 zs1 (.ref a38) := (Sta.wr W35 (Sta.wr W24 (Sta.wr W12 (Sta.ext E2 F39))))
  obtain ⟨T41, X41, e41, st41⟩ := getS2 X35 hx hZ hown (host := "") (Or.inl (ww hw 10 rfl)) Via.refl e35 f40 (g := (mkF m 25 (lc0 p1) [(.int 3), (.ref b2), (.ref b2)])) rfl (hb hby at_25)
  have f43 : Exa Z h35 a38 zs0 := (Exa.wr W35 (Exa.wr W24 (Exa.wr W12 (Exa.ext E2 F42))))
  have f44 : Arv Z h35 b2 k2 (.object zs0) (14 : Int32) [(.ref a4), (.ref a16), (.ref a27), .null] .null := f37.pad (pad_rep [(.ref a4), (.ref a16), (.ref a27)] .null 1)
  obtain ⟨cl45, Ar45, q45, S45, N45, H45, G45⟩ := id f44
  have hin46 : ¬ ((3 : Int32) < 0 ∨ cl45.slots.size ≤ ((3 : Int32)).toNatClampNeg) := inb_of S45 ⟨by decide, by decide⟩
  obtain ⟨T46, h46, X46, e46, W46, st46⟩ := stR X41 hx hZ e41 Ar45 (j := (3 : Int32)) hin46 rfl (Sto.ofV Ar45 q45 O2 (Ins.self f43)) (g := (mkF m 28 (lc0 p1) [(.ref a38), (.int 3), (.ref b2), (.ref b2)])) rfl rfl (hb hby at_28)
  have N47 := Fr.snoc X46 N36 g13
  have f48 : Arv Z h46 b2 k2 (.object zs0) (14 : Int32) [(.ref a4), (.ref a16), (.ref a27), (.ref a38)] .null := Arv.set Ar45 q45 S45 N45 H45 G45 (by rfl) W46 3 rfl (Nat.le_of_ble_eq_true rfl)
  have f51 : Sta Z h46 zs0 zs6 zs1 (.ref a49) := (Sta.wr W46 (Sta.wr W35 (Sta.wr W24 (Sta.wr W12 (Sta.ext E2 F50)))))
  obtain ⟨T52, X52, e52, st52⟩ := getS2 X46 hx hZ hown (host := "") (Or.inl (ww hw 12 rfl)) Via.refl e46 f51 (g := (mkF m 31 (lc0 p1) [(.int 4), (.ref b2), (.ref b2)])) rfl (hb hby at_31)
  have f54 : Exa Z h46 a49 zs0 := (Exa.wr W46 (Exa.wr W35 (Exa.wr W24 (Exa.wr W12 (Exa.ext E2 F53)))))
  have f55 : Arv Z h46 b2 k2 (.object zs0) (14 : Int32) [(.ref a4), (.ref a16), (.ref a27), (.ref a38), .null] .null := f48.pad (pad_rep [(.ref a4), (.ref a16), (.ref a27), (.ref a38)] .null 1)
  obtain ⟨cl56, Ar56, q56, S56, N56, H56, G56⟩ := id f55
  have hin57 : ¬ ((4 : Int32) < 0 ∨ cl56.slots.size ≤ ((4 : Int32)).toNatClampNeg) := inb_of S56 ⟨by decide, by decide⟩
  obtain ⟨T57, h57, X57, e57, W57, st57⟩ := stR X52 hx hZ e52 Ar56 (j := (4 : Int32)) hin57 rfl (Sto.ofV Ar56 q56 O2 (Ins.self f54)) (g := (mkF m 34 (lc0 p1) [(.ref a49), (.int 4), (.ref b2), (.ref b2)])) rfl rfl (hb hby at_34)
  have N58 := Fr.snoc X57 N47 g13
  have f59 : Arv Z h57 b2 k2 (.object zs0) (14 : Int32) [(.ref a4), (.ref a16), (.ref a27), (.ref a38), (.ref a49)] .null := Arv.set Ar56 q56 S56 N56 H56 G56 (by rfl) W57 4 rfl (Nat.le_of_ble_eq_true rfl)
  have f62 : Sta Z h57 zs0 zs7 zs1 (.ref a60) := (Sta.wr W57 (Sta.wr W46 (Sta.wr W35 (Sta.wr W24 (Sta.wr W12 (Sta.ext E2 F61))))))
  obtain ⟨T63, X63, e63, st63⟩ := getS2 X57 hx hZ hown (host := "") (Or.inl (ww hw 14 rfl)) Via.refl e57 f62 (g := (mkF m 37 (lc0 p1) [(.int 5), (.ref b2), (.ref b2)])) rfl (hb hby at_37)
  have f65 : Exa Z h57 a60 zs0 := (Exa.wr W57 (Exa.wr W46 (Exa.wr W35 (Exa.wr W24 (Exa.wr W12 (Exa.ext E2 F64))))))
  have f66 : Arv Z h57 b2 k2 (.object zs0) (14 : Int32) [(.ref a4), (.ref a16), (.ref a27), (.ref a38), (.ref a49), .null] .null := f59.pad (pad_rep [(.ref a4), (.ref a16), (.ref a27), (.ref a38), (.ref a49)] .null 1)
  obtain ⟨cl67, Ar67, q67, S67, N67, H67, G67⟩ := id f66
  have hin68 : ¬ ((5 : Int32) < 0 ∨ cl67.slots.size ≤ ((5 : Int32)).toNatClampNeg) := inb_of S67 ⟨by decide, by decide⟩
  obtain ⟨T68, h68, X68, e68, W68, st68⟩ := stR X63 hx hZ e63 Ar67 (j := (5 : Int32)) hin68 rfl (Sto.ofV Ar67 q67 O2 (Ins.self f65)) (g := (mkF m 40 (lc0 p1) [(.ref a60), (.int 5), (.ref b2), (.ref b2)])) rfl rfl (hb hby at_40)
  have N69 := Fr.snoc X68 N58 g13
  have f70 : Arv Z h68 b2 k2 (.object zs0) (14 : Int32) [(.ref a4), (.ref a16), (.ref a27), (.ref a38), (.ref a49), (.ref a60)] .null := Arv.set Ar67 q67 S67 N67 H67 G67 (by rfl) W68 5 rfl (Nat.le_of_ble_eq_true rfl)
  have f73 : Sta Z h68 zs0 zs8 zs1 (.ref a71) := (Sta.wr W68 (Sta.wr W57 (Sta.wr W46 (Sta.wr W35 (Sta.wr W24 (Sta.wr W12 (Sta.ext E2 F72)))))))
  obtain ⟨T74, X74, e74, st74⟩ := getS2 X68 hx hZ hown (host := "") (Or.inl (ww hw 16 rfl)) Via.refl e68 f73 (g := (mkF m 44 (lc0 p1) [(.int 6), (.ref b2), (.ref b2)])) rfl (hb hby at_44)
  have f76 : Exa Z h68 a71 zs0 := (Exa.wr W68 (Exa.wr W57 (Exa.wr W46 (Exa.wr W35 (Exa.wr W24 (Exa.wr W12 (Exa.ext E2 F75)))))))
  have f77 : Arv Z h68 b2 k2 (.object zs0) (14 : Int32) [(.ref a4), (.ref a16), (.ref a27), (.ref a38), (.ref a49), (.ref a60), .null] .null := f70.pad (pad_rep [(.ref a4), (.ref a16), (.ref a27), (.ref a38), (.ref a49), (.ref a60)] .null 1)
  obtain ⟨cl78, Ar78, q78, S78, N78, H78, G78⟩ := id f77
  have hin79 : ¬ ((6 : Int32) < 0 ∨ cl78.slots.size ≤ ((6 : Int32)).toNatClampNeg) := inb_of S78 ⟨by decide, by decide⟩
  obtain ⟨T79, h79, X79, e79, W79, st79⟩ := stR X74 hx hZ e74 Ar78 (j := (6 : Int32)) hin79 rfl (Sto.ofV Ar78 q78 O2 (Ins.self f76)) (g := (mkF m 47 (lc0 p1) [(.ref a71), (.int 6), (.ref b2), (.ref b2)])) rfl rfl (hb hby at_47)
  have N80 := Fr.snoc X79 N69 g13
  have f81 : Arv Z h79 b2 k2 (.object zs0) (14 : Int32) [(.ref a4), (.ref a16), (.ref a27), (.ref a38), (.ref a49), (.ref a60), (.ref a71)] .null := Arv.set Ar78 q78 S78 N78 H78 G78 (by rfl) W79 6 rfl (Nat.le_of_ble_eq_true rfl)
  have f84 : Sta Z h79 zs0 zs9 zs1 (.ref a82) := (Sta.wr W79 (Sta.wr W68 (Sta.wr W57 (Sta.wr W46 (Sta.wr W35 (Sta.wr W24 (Sta.wr W12 (Sta.ext E2 F83))))))))
  obtain ⟨T85, X85, e85, st85⟩ := getS2 X79 hx hZ hown (host := "") (Or.inl (ww hw 18 rfl)) Via.refl e79 f84 (g := (mkF m 51 (lc0 p1) [(.int 7), (.ref b2), (.ref b2)])) rfl (hb hby at_51)
  have f87 : Exa Z h79 a82 zs0 := (Exa.wr W79 (Exa.wr W68 (Exa.wr W57 (Exa.wr W46 (Exa.wr W35 (Exa.wr W24 (Exa.wr W12 (Exa.ext E2 F86))))))))
  have f88 : Arv Z h79 b2 k2 (.object zs0) (14 : Int32) [(.ref a4), (.ref a16), (.ref a27), (.ref a38), (.ref a49), (.ref a60), (.ref a71), .null] .null := f81.pad (pad_rep [(.ref a4), (.ref a16), (.ref a27), (.ref a38), (.ref a49), (.ref a60), (.ref a71)] .null 1)
  obtain ⟨cl89, Ar89, q89, S89, N89, H89, G89⟩ := id f88
  have hin90 : ¬ ((7 : Int32) < 0 ∨ cl89.slots.size ≤ ((7 : Int32)).toNatClampNeg) := inb_of S89 ⟨by decide, by decide⟩
  obtain ⟨T90, h90, X90, e90, W90, st90⟩ := stR X85 hx hZ e85 Ar89 (j := (7 : Int32)) hin90 rfl (Sto.ofV Ar89 q89 O2 (Ins.self f87)) (g := (mkF m 54 (lc0 p1) [(.ref a82), (.int 7), (.ref b2), (.ref b2)])) rfl rfl (hb hby at_54)
  have N91 := Fr.snoc X90 N80 g13
  have f92 : Arv Z h90 b2 k2 (.object zs0) (14 : Int32) [(.ref a4), (.ref a16), (.ref a27), (.ref a38), (.ref a49), (.ref a60), (.ref a71), (.ref a82)] .null := Arv.set Ar89 q89 S89 N89 H89 G89 (by rfl) W90 7 rfl (Nat.le_of_ble_eq_true rfl)
  have f95 : Sta Z h90 zs0 zs10 zs1 (.ref a93) := (Sta.wr W90 (Sta.wr W79 (Sta.wr W68 (Sta.wr W57 (Sta.wr W46 (Sta.wr W35 (Sta.wr W24 (Sta.wr W12 (Sta.ext E2 F94)))))))))
  obtain ⟨T96, X96, e96, st96⟩ := getS2 X90 hx hZ hown (host := "") (Or.inl (ww hw 20 rfl)) Via.refl e90 f95 (g := (mkF m 58 (lc0 p1) [(.int 8), (.ref b2), (.ref b2)])) rfl (hb hby at_58)
  have f98 : Exa Z h90 a93 zs0 := (Exa.wr W90 (Exa.wr W79 (Exa.wr W68 (Exa.wr W57 (Exa.wr W46 (Exa.wr W35 (Exa.wr W24 (Exa.wr W12 (Exa.ext E2 F97)))))))))
  have f99 : Arv Z h90 b2 k2 (.object zs0) (14 : Int32) [(.ref a4), (.ref a16), (.ref a27), (.ref a38), (.ref a49), (.ref a60), (.ref a71), (.ref a82), .null] .null := f92.pad (pad_rep [(.ref a4), (.ref a16), (.ref a27), (.ref a38), (.ref a49), (.ref a60), (.ref a71), (.ref a82)] .null 1)
  obtain ⟨cl100, Ar100, q100, S100, N100, H100, G100⟩ := id f99
  have hin101 : ¬ ((8 : Int32) < 0 ∨ cl100.slots.size ≤ ((8 : Int32)).toNatClampNeg) := inb_of S100 ⟨by decide, by decide⟩
  obtain ⟨T101, h101, X101, e101, W101, st101⟩ := stR X96 hx hZ e96 Ar100 (j := (8 : Int32)) hin101 rfl (Sto.ofV Ar100 q100 O2 (Ins.self f98)) (g := (mkF m 61 (lc0 p1) [(.ref a93), (.int 8), (.ref b2), (.ref b2)])) rfl rfl (hb hby at_61)
  have N102 := Fr.snoc X101 N91 g13
  have f103 : Arv Z h101 b2 k2 (.object zs0) (14 : Int32) [(.ref a4), (.ref a16), (.ref a27), (.ref a38), (.ref a49), (.ref a60), (.ref a71), (.ref a82), (.ref a93)] .null := Arv.set Ar100 q100 S100 N100 H100 G100 (by rfl) W101 8 rfl (Nat.le_of_ble_eq_true rfl)
  have f106 : Sta Z h101 zs0 "INVALID_JSON" zs1 (.ref a104) := (Sta.wr W101 (Sta.wr W90 (Sta.wr W79 (Sta.wr W68 (Sta.wr W57 (Sta.wr W46 (Sta.wr W35 (Sta.wr W24 (Sta.wr W12 (Sta.ext E2 F105))))))))))
  obtain ⟨T107, X107, e107, st107⟩ := getS2 X101 hx hZ hown (host := "") (Or.inl (ww hw 22 rfl)) Via.refl e101 f106 (g := (mkF m 65 (lc0 p1) [(.int 9), (.ref b2), (.ref b2)])) rfl (hb hby at_65)
  have f109 : Exa Z h101 a104 zs0 := (Exa.wr W101 (Exa.wr W90 (Exa.wr W79 (Exa.wr W68 (Exa.wr W57 (Exa.wr W46 (Exa.wr W35 (Exa.wr W24 (Exa.wr W12 (Exa.ext E2 F108))))))))))
  have f110 : Arv Z h101 b2 k2 (.object zs0) (14 : Int32) [(.ref a4), (.ref a16), (.ref a27), (.ref a38), (.ref a49), (.ref a60), (.ref a71), (.ref a82), (.ref a93), .null] .null := f103.pad (pad_rep [(.ref a4), (.ref a16), (.ref a27), (.ref a38), (.ref a49), (.ref a60), (.ref a71), (.ref a82), (.ref a93)] .null 1)
  obtain ⟨cl111, Ar111, q111, S111, N111, H111, G111⟩ := id f110
  have hin112 : ¬ ((9 : Int32) < 0 ∨ cl111.slots.size ≤ ((9 : Int32)).toNatClampNeg) := inb_of S111 ⟨by decide, by decide⟩
  obtain ⟨T112, h112, X112, e112, W112, st112⟩ := stR X107 hx hZ e107 Ar111 (j := (9 : Int32)) hin112 rfl (Sto.ofV Ar111 q111 O2 (Ins.self f109)) (g := (mkF m 68 (lc0 p1) [(.ref a104), (.int 9), (.ref b2), (.ref b2)])) rfl rfl (hb hby at_68)
  have N113 := Fr.snoc X112 N102 g13
  have f114 : Arv Z h112 b2 k2 (.object zs0) (14 : Int32) [(.ref a4), (.ref a16), (.ref a27), (.ref a38), (.ref a49), (.ref a60), (.ref a71), (.ref a82), (.ref a93), (.ref a104)] .null := Arv.set Ar111 q111 S111 N111 H111 G111 (by rfl) W112 9 rfl (Nat.le_of_ble_eq_true rfl)
  have f117 : Sta Z h112 zs0 "INVALID_TEXT" zs1 (.ref a115) := (Sta.wr W112 (Sta.wr W101 (Sta.wr W90 (Sta.wr W79 (Sta.wr W68 (Sta.wr W57 (Sta.wr W46 (Sta.wr W35 (Sta.wr W24 (Sta.wr W12 (Sta.ext E2 F116)))))))))))
  obtain ⟨T118, X118, e118, st118⟩ := getS2 X112 hx hZ hown (host := "") (Or.inl (ww hw 24 rfl)) Via.refl e112 f117 (g := (mkF m 72 (lc0 p1) [(.int 10), (.ref b2), (.ref b2)])) rfl (hb hby at_72)
  have f120 : Exa Z h112 a115 zs0 := (Exa.wr W112 (Exa.wr W101 (Exa.wr W90 (Exa.wr W79 (Exa.wr W68 (Exa.wr W57 (Exa.wr W46 (Exa.wr W35 (Exa.wr W24 (Exa.wr W12 (Exa.ext E2 F119)))))))))))
  have f121 : Arv Z h112 b2 k2 (.object zs0) (14 : Int32) [(.ref a4), (.ref a16), (.ref a27), (.ref a38), (.ref a49), (.ref a60), (.ref a71), (.ref a82), (.ref a93), (.ref a104), .null] .null := f114.pad (pad_rep [(.ref a4), (.ref a16), (.ref a27), (.ref a38), (.ref a49), (.ref a60), (.ref a71), (.ref a82), (.ref a93), (.ref a104)] .null 1)
  obtain ⟨cl122, Ar122, q122, S122, N122, H122, G122⟩ := id f121
  have hin123 : ¬ ((10 : Int32) < 0 ∨ cl122.slots.size ≤ ((10 : Int32)).toNatClampNeg) := inb_of S122 ⟨by decide, by decide⟩
  obtain ⟨T123, h123, X123, e123, W123, st123⟩ := stR X118 hx hZ e118 Ar122 (j := (10 : Int32)) hin123 rfl (Sto.ofV Ar122 q122 O2 (Ins.self f120)) (g := (mkF m 75 (lc0 p1) [(.ref a115), (.int 10), (.ref b2), (.ref b2)])) rfl rfl (hb hby at_75)
  have N124 := Fr.snoc X123 N113 g13
  have f125 : Arv Z h123 b2 k2 (.object zs0) (14 : Int32) [(.ref a4), (.ref a16), (.ref a27), (.ref a38), (.ref a49), (.ref a60), (.ref a71), (.ref a82), (.ref a93), (.ref a104), (.ref a115)] .null := Arv.set Ar122 q122 S122 N122 H122 G122 (by rfl) W123 10 rfl (Nat.le_of_ble_eq_true rfl)
  have f128 : Sta Z h123 zs0 zs11 zs1 (.ref a126) := (Sta.wr W123 (Sta.wr W112 (Sta.wr W101 (Sta.wr W90 (Sta.wr W79 (Sta.wr W68 (Sta.wr W57 (Sta.wr W46 (Sta.wr W35 (Sta.wr W24 (Sta.wr W12 (Sta.ext E2 F127))))))))))))
  obtain ⟨T129, X129, e129, st129⟩ := getS2 X123 hx hZ hown (host := "") (Or.inl (ww hw 26 rfl)) Via.refl e123 f128 (g := (mkF m 79 (lc0 p1) [(.int 11), (.ref b2), (.ref b2)])) rfl (hb hby at_79)
  have f131 : Exa Z h123 a126 zs0 := (Exa.wr W123 (Exa.wr W112 (Exa.wr W101 (Exa.wr W90 (Exa.wr W79 (Exa.wr W68 (Exa.wr W57 (Exa.wr W46 (Exa.wr W35 (Exa.wr W24 (Exa.wr W12 (Exa.ext E2 F130))))))))))))
  have f132 : Arv Z h123 b2 k2 (.object zs0) (14 : Int32) [(.ref a4), (.ref a16), (.ref a27), (.ref a38), (.ref a49), (.ref a60), (.ref a71), (.ref a82), (.ref a93), (.ref a104), (.ref a115), .null] .null := f125.pad (pad_rep [(.ref a4), (.ref a16), (.ref a27), (.ref a38), (.ref a49), (.ref a60), (.ref a71), (.ref a82), (.ref a93), (.ref a104), (.ref a115)] .null 1)
  obtain ⟨cl133, Ar133, q133, S133, N133, H133, G133⟩ := id f132
  have hin134 : ¬ ((11 : Int32) < 0 ∨ cl133.slots.size ≤ ((11 : Int32)).toNatClampNeg) := inb_of S133 ⟨by decide, by decide⟩
  obtain ⟨T134, h134, X134, e134, W134, st134⟩ := stR X129 hx hZ e129 Ar133 (j := (11 : Int32)) hin134 rfl (Sto.ofV Ar133 q133 O2 (Ins.self f131)) (g := (mkF m 82 (lc0 p1) [(.ref a126), (.int 11), (.ref b2), (.ref b2)])) rfl rfl (hb hby at_82)
  have N135 := Fr.snoc X134 N124 g13
  have f136 : Arv Z h134 b2 k2 (.object zs0) (14 : Int32) [(.ref a4), (.ref a16), (.ref a27), (.ref a38), (.ref a49), (.ref a60), (.ref a71), (.ref a82), (.ref a93), (.ref a104), (.ref a115), (.ref a126)] .null := Arv.set Ar133 q133 S133 N133 H133 G133 (by rfl) W134 11 rfl (Nat.le_of_ble_eq_true rfl)
  have f139 : Sta Z h134 zs0 zs12 zs1 (.ref a137) := (Sta.wr W134 (Sta.wr W123 (Sta.wr W112 (Sta.wr W101 (Sta.wr W90 (Sta.wr W79 (Sta.wr W68 (Sta.wr W57 (Sta.wr W46 (Sta.wr W35 (Sta.wr W24 (Sta.wr W12 (Sta.ext E2 F138)))))))))))))
  obtain ⟨T140, X140, e140, st140⟩ := getS2 X134 hx hZ hown (host := "") (Or.inl (ww hw 28 rfl)) Via.refl e134 f139 (g := (mkF m 86 (lc0 p1) [(.int 12), (.ref b2), (.ref b2)])) rfl (hb hby at_86)
  have f142 : Exa Z h134 a137 zs0 := (Exa.wr W134 (Exa.wr W123 (Exa.wr W112 (Exa.wr W101 (Exa.wr W90 (Exa.wr W79 (Exa.wr W68 (Exa.wr W57 (Exa.wr W46 (Exa.wr W35 (Exa.wr W24 (Exa.wr W12 (Exa.ext E2 F141)))))))))))))
  have f143 : Arv Z h134 b2 k2 (.object zs0) (14 : Int32) [(.ref a4), (.ref a16), (.ref a27), (.ref a38), (.ref a49), (.ref a60), (.ref a71), (.ref a82), (.ref a93), (.ref a104), (.ref a115), (.ref a126), .null] .null := f136.pad (pad_rep [(.ref a4), (.ref a16), (.ref a27), (.ref a38), (.ref a49), (.ref a60), (.ref a71), (.ref a82), (.ref a93), (.ref a104), (.ref a115), (.ref a126)] .null 1)
  obtain ⟨cl144, Ar144, q144, S144, N144, H144, G144⟩ := id f143
  have hin145 : ¬ ((12 : Int32) < 0 ∨ cl144.slots.size ≤ ((12 : Int32)).toNatClampNeg) := inb_of S144 ⟨by decide, by decide⟩
  obtain ⟨T145, h145, X145, e145, W145, st145⟩ := stR X140 hx hZ e140 Ar144 (j := (12 : Int32)) hin145 rfl (Sto.ofV Ar144 q144 O2 (Ins.self f142)) (g := (mkF m 89 (lc0 p1) [(.ref a137), (.int 12), (.ref b2), (.ref b2)])) rfl rfl (hb hby at_89)
  have N146 := Fr.snoc X145 N135 g13
  have f147 : Arv Z h145 b2 k2 (.object zs0) (14 : Int32) [(.ref a4), (.ref a16), (.ref a27), (.ref a38), (.ref a49), (.ref a60), (.ref a71), (.ref a82), (.ref a93), (.ref a104), (.ref a115), (.ref a126), (.ref a137)] .null := Arv.set Ar144 q144 S144 N144 H144 G144 (by rfl) W145 12 rfl (Nat.le_of_ble_eq_true rfl)
  have f150 : Sta Z h145 zs0 "UNKNOWN_ITEM" zs1 (.ref a148) := (Sta.wr W145 (Sta.wr W134 (Sta.wr W123 (Sta.wr W112 (Sta.wr W101 (Sta.wr W90 (Sta.wr W79 (Sta.wr W68 (Sta.wr W57 (Sta.wr W46 (Sta.wr W35 (Sta.wr W24 (Sta.wr W12 (Sta.ext E2 F149))))))))))))))
  obtain ⟨T151, X151, e151, st151⟩ := getS2 X145 hx hZ hown (host := "") (Or.inl (ww hw 30 rfl)) Via.refl e145 f150 (g := (mkF m 93 (lc0 p1) [(.int 13), (.ref b2), (.ref b2)])) rfl (hb hby at_93)
  have f153 : Exa Z h145 a148 zs0 := (Exa.wr W145 (Exa.wr W134 (Exa.wr W123 (Exa.wr W112 (Exa.wr W101 (Exa.wr W90 (Exa.wr W79 (Exa.wr W68 (Exa.wr W57 (Exa.wr W46 (Exa.wr W35 (Exa.wr W24 (Exa.wr W12 (Exa.ext E2 F152))))))))))))))
  have f154 : Arv Z h145 b2 k2 (.object zs0) (14 : Int32) [(.ref a4), (.ref a16), (.ref a27), (.ref a38), (.ref a49), (.ref a60), (.ref a71), (.ref a82), (.ref a93), (.ref a104), (.ref a115), (.ref a126), (.ref a137), .null] .null := f147.pad (pad_rep [(.ref a4), (.ref a16), (.ref a27), (.ref a38), (.ref a49), (.ref a60), (.ref a71), (.ref a82), (.ref a93), (.ref a104), (.ref a115), (.ref a126), (.ref a137)] .null 1)
  obtain ⟨cl155, Ar155, q155, S155, N155, H155, G155⟩ := id f154
  have hin156 : ¬ ((13 : Int32) < 0 ∨ cl155.slots.size ≤ ((13 : Int32)).toNatClampNeg) := inb_of S155 ⟨by decide, by decide⟩
  obtain ⟨T156, h156, X156, e156, W156, st156⟩ := stR X151 hx hZ e151 Ar155 (j := (13 : Int32)) hin156 rfl (Sto.ofV Ar155 q155 O2 (Ins.self f153)) (g := (mkF m 96 (lc0 p1) [(.ref a148), (.int 13), (.ref b2), (.ref b2)])) rfl rfl (hb hby at_96)
  have N157 := Fr.snoc X156 N146 g13
  have f158 : Arv Z h156 b2 k2 (.object zs0) (14 : Int32) [(.ref a4), (.ref a16), (.ref a27), (.ref a38), (.ref a49), (.ref a60), (.ref a71), (.ref a82), (.ref a93), (.ref a104), (.ref a115), (.ref a126), (.ref a137), (.ref a148)] .null := Arv.set Ar155 q155 S155 N155 H155 G155 (by rfl) W156 13 rfl (Nat.le_of_ble_eq_true rfl)
  refine own_go (U' := T156.setTop (mkF m 105 (lc1 p1 b2) [(.int ((p1 &&& (2147483647 : Int32)) % (14 : Int32)))])) (fun t k => obipush X0 hx hby at_0 (st2 _ (odup X2 hx hby at_5 rfl (oiconst X2 hx hby at_6 (st7 _ (st12 _ (odup X12 hx hby at_11 rfl (oiconst X12 hx hby at_12 (st19 _ (st24 _ (odup X24 hx hby at_17 rfl (oiconst X24 hx hby at_18 (st30 _ (st35 _ (odup X35 hx hby at_23 rfl (oiconst X35 hx hby at_24 (st41 _ (st46 _ (odup X46 hx hby at_29 rfl (oiconst X46 hx hby at_30 (st52 _ (st57 _ (odup X57 hx hby at_35 rfl (oiconst X57 hx hby at_36 (st63 _ (st68 _ (odup X68 hx hby at_41 rfl (obipush X68 hx hby at_42 (st74 _ (st79 _ (odup X79 hx hby at_48 rfl (obipush X79 hx hby at_49 (st85 _ (st90 _ (odup X90 hx hby at_55 rfl (obipush X90 hx hby at_56 (st96 _ (st101 _ (odup X101 hx hby at_62 rfl (obipush X101 hx hby at_63 (st107 _ (st112 _ (odup X112 hx hby at_69 rfl (obipush X112 hx hby at_70 (st118 _ (st123 _ (odup X123 hx hby at_76 rfl (obipush X123 hx hby at_77 (st129 _ (st134 _ (odup X134 hx hby at_83 rfl (obipush X134 hx hby at_84 (st140 _ (st145 _ (odup X145 hx hby at_90 rfl (obipush X145 hx hby at_91 (st151 _ (st156 _ (oastoreN X156 hx hby at_97 (lc1 p1 b2) rfl rfl (oiloadN X156 hx hby at_98 rfl (X156.ldcInt hx hown (mvT hZ (ww hw 32 rfl)) (g := (mkF m 99 (lc1 p1 b2) [(.int p1)])) rfl (hb hby at_99) _ (oiand X156 hx hby at_101 (obipush X156 hx hby at_102 (oirem X156 hx hby at_104 (by decide) k)))))))))))))))))))))))))))))))))))))))))))))))))))))))))))))))) ?_
  rw [hv159]
  obtain ⟨cl160, Ar160, q160, S160, N160, H160, G160⟩ := id f158
  have hin161 : ¬ ((13 : Int32) < 0 ∨ cl160.slots.size ≤ ((13 : Int32)).toNatClampNeg) := inb_of S160 ⟨by decide, by decide⟩
  have hat161 : cl160.slots[((13 : Int32)).toNatClampNeg]? = some (.ref a148) := Has.at H160 hin161 rfl
  refine own_go (U' := T156.setTop (mkF m 113 (lc3 p1 b2 13 a148) [(.int 9), (.int 13)])) (fun t k => oistoreN X156 hx hby at_105 (lc2 p1 b2 13) rfl (oaloadN X156 hx hby at_106 rfl rfl (oiloadN X156 hx hby at_107 rfl (X156.aaload hx (j := (13 : Int32)) (v := (.ref a148)) (by rw [e156]; exact Ar160.1) (State.isArrayOf_alike hZ.alike Ar160.2.1) rfl Ar160.2.2 hin161 hat161 (g := (mkF m 108 (lc2 p1 b2 13) [(.int 13), (.ref b2)])) rfl rfl (hb hby at_108) _ (oastoreN X156 hx hby at_109 (lc3 p1 b2 13 a148) rfl rfl (oiloadN X156 hx hby at_110 rfl (obipush X156 hx hby at_111 k))))))) ?_
  refine own_go (U' := T156.setTop (mkF m 119 (lc3 p1 b2 13 a148) [(.int 10), (.int 13)])) (fun t k => oicN X156 hx hby at_113 (by decide) (oiloadN X156 hx hby at_116 rfl (obipush X156 hx hby at_117 k))) ?_
  have f163 : Exa Z h156 a148 zs0 := (Exa.wr W156 f153)
  have f164 : Sta Z h156 zs0 "INVALID_JSON" zs1 (.ref a104) := (Sta.wr W156 (Sta.wr W145 (Sta.wr W134 (Sta.wr W123 (Sta.wr W112 f106)))))
  have f166 : Sta Z h156 zs0 "INVALID_TEXT" zs1 (.ref a115) := (Sta.wr W156 (Sta.wr W145 (Sta.wr W134 (Sta.wr W123 f117))))
  have Z_1 : n0 ≤ h2.size := Nat.le_trans Z0 E2.1
  have Z_2 : n0 ≤ h12.size := Nat.le_trans Z_1 (Keep.of_wr W12).1
  have Z_3 : n0 ≤ h24.size := Nat.le_trans Z_2 (Keep.of_wr W24).1
  have Z_4 : n0 ≤ h35.size := Nat.le_trans Z_3 (Keep.of_wr W35).1
  have Z_5 : n0 ≤ h46.size := Nat.le_trans Z_4 (Keep.of_wr W46).1
  have Z_6 : n0 ≤ h57.size := Nat.le_trans Z_5 (Keep.of_wr W57).1
  have Z_7 : n0 ≤ h68.size := Nat.le_trans Z_6 (Keep.of_wr W68).1
  have Z_8 : n0 ≤ h79.size := Nat.le_trans Z_7 (Keep.of_wr W79).1
  have Z_9 : n0 ≤ h90.size := Nat.le_trans Z_8 (Keep.of_wr W90).1
  have Z_10 : n0 ≤ h101.size := Nat.le_trans Z_9 (Keep.of_wr W101).1
  have Z_11 : n0 ≤ h112.size := Nat.le_trans Z_10 (Keep.of_wr W112).1
  have Z_12 : n0 ≤ h123.size := Nat.le_trans Z_11 (Keep.of_wr W123).1
  have Z_13 : n0 ≤ h134.size := Nat.le_trans Z_12 (Keep.of_wr W134).1
  have Z_14 : n0 ≤ h145.size := Nat.le_trans Z_13 (Keep.of_wr W145).1
  have Z_15 : n0 ≤ h156.size := Nat.le_trans Z_14 (Keep.of_wr W156).1
  obtain ⟨_, T162, L162, X162, hQ162, st162⟩ := ocallV X156 hx hZ zm0 zm0 hown (ww hw 33 rfl) (ww hw 34 rfl) (notFace_of_selects (args := #[]) (mvT hZ (ww hw 36 rfl))) (ww hw 36 rfl) (ww hw 35 rfl) (by decide) (ww hw 37 rfl) (ww hw 3 rfl) e156 f163 (rm1_0 l Z a0 hw [] a148 a104 a115 h156 n0 Z_15 f164 ha165 f166 ha167) (st := [(.ref a148)]) rfl 0 rfl (by decide) (pc := 130) (Ls := (lc4 p1 b2 13 a148 0)) hml rfl (lenOf pd_0 rfl) at_130 hby
  obtain ⟨rfl, N162q, e162⟩ := hQ162
  have N168 := Fr.app N157 N162q
  refine own_go (U' := T162.setTop (mkF m 135 (lc4 p1 b2 13 a148 0) [(.int 0), (.int 0)])) (fun t k => oicY (pc := 119) X156 hx hby at_119 126 (by decide) (by decide) (oiconst X156 hx hby at_126 (oistore X156 hx hby at_127 (lc4 p1 b2 13 a148 0) rfl (oaloadN X156 hx hby at_129 rfl rfl (st162 _ (oiload X162 hx hby at_133 rfl k)))))) ?_
  refine own_go (U' := T162.setTop (mkF m 143 (lc4 p1 b2 13 a148 0) [(.int 1)])) (fun t k => oicN X162 hx hby at_135 (by decide) (oiconst X162 hx hby at_138 (ogoto (pc := 139) X162 hx hby at_139 143 (by decide) k))) ?_
  obtain ⟨fs, hr, hrun, hended, hW, hsame⟩ := X162.leave (v := some (.int 1)) (fun h => by rw [Bd.returns] at h; cases h)
  refine own_out ⟨_, _, ?_, hrun, hended, _, _, rfl, ?_, ⟨_, rfl⟩, hW, hsame.mono (by decide) (by decide)⟩
  · exact retN X162 hx (t := .boolean) Bd.returns (by simp) (hb hby at_143) hr
  · exact ⟨rfl, N168⟩
set_option maxRecDepth 65536 in
set_option maxHeartbeats 40000000 in
theorem law_all (l : Launch) (Z : State) (a0 : Array Value) (hw : ∀ d ∈ tables_1, d.before a0 Z = true) (ws : List Jvm.Cond) (i0 : Int32) (w0 : Addr) (w1 : Addr) (w2 : Addr) (w3 : Addr) (w4 : Addr) (w5 : Addr) (w6 : Addr) (w7 : Addr) (w8 : Addr) (w9 : Addr) (w10 : Addr) (w11 : Addr) (w12 : Addr) (w13 : Addr) (h0 : Heap) (n0 : Nat) (Z0 : n0 ≤ h0.size) (S0 : Sta Z h0 "com/example/strict_ledger/strictledger/RefusalCode" "ILLEGAL_TRANSITION" "Lcom/example/strict_ledger/strictledger/RefusalCode;" (.ref w0)) (S1 : Exa Z h0 w0 "com/example/strict_ledger/strictledger/RefusalCode") (S2 : Sta Z h0 "com/example/strict_ledger/strictledger/RefusalCode" "DUPLICATE_TERMINAL" "Lcom/example/strict_ledger/strictledger/RefusalCode;" (.ref w1)) (S3 : Exa Z h0 w1 "com/example/strict_ledger/strictledger/RefusalCode") (S4 : Sta Z h0 "com/example/strict_ledger/strictledger/RefusalCode" "PRECONDITION_FAILED" "Lcom/example/strict_ledger/strictledger/RefusalCode;" (.ref w2)) (S5 : Exa Z h0 w2 "com/example/strict_ledger/strictledger/RefusalCode") (S6 : Sta Z h0 "com/example/strict_ledger/strictledger/RefusalCode" "VERSION_CONFLICT" "Lcom/example/strict_ledger/strictledger/RefusalCode;" (.ref w3)) (S7 : Exa Z h0 w3 "com/example/strict_ledger/strictledger/RefusalCode") (S8 : Sta Z h0 "com/example/strict_ledger/strictledger/RefusalCode" "LEASE_REQUIRED" "Lcom/example/strict_ledger/strictledger/RefusalCode;" (.ref w4)) (S9 : Exa Z h0 w4 "com/example/strict_ledger/strictledger/RefusalCode") (S10 : Sta Z h0 "com/example/strict_ledger/strictledger/RefusalCode" "LEASE_MISMATCH" "Lcom/example/strict_ledger/strictledger/RefusalCode;" (.ref w5)) (S11 : Exa Z h0 w5 "com/example/strict_ledger/strictledger/RefusalCode") (S12 : Sta Z h0 "com/example/strict_ledger/strictledger/RefusalCode" "RETRY_NOT_ALLOWED" "Lcom/example/strict_ledger/strictledger/RefusalCode;" (.ref w6)) (S13 : Exa Z h0 w6 "com/example/strict_ledger/strictledger/RefusalCode") (S14 : Sta Z h0 "com/example/strict_ledger/strictledger/RefusalCode" "NOT_ACTIVE_STEP" "Lcom/example/strict_ledger/strictledger/RefusalCode;" (.ref w7)) (S15 : Exa Z h0 w7 "com/example/strict_ledger/strictledger/RefusalCode") (S16 : Sta Z h0 "com/example/strict_ledger/strictledger/RefusalCode" "IDEMPOTENCY_CONFLICT" "Lcom/example/strict_ledger/strictledger/RefusalCode;" (.ref w8)) (S17 : Exa Z h0 w8 "com/example/strict_ledger/strictledger/RefusalCode") (S18 : Sta Z h0 "com/example/strict_ledger/strictledger/RefusalCode" "INVALID_JSON" "Lcom/example/strict_ledger/strictledger/RefusalCode;" (.ref w9)) (S19 : Exa Z h0 w9 "com/example/strict_ledger/strictledger/RefusalCode") (S20 : Sta Z h0 "com/example/strict_ledger/strictledger/RefusalCode" "INVALID_TEXT" "Lcom/example/strict_ledger/strictledger/RefusalCode;" (.ref w10)) (S21 : Exa Z h0 w10 "com/example/strict_ledger/strictledger/RefusalCode") (S22 : Sta Z h0 "com/example/strict_ledger/strictledger/RefusalCode" "COUNTER_OVERFLOW" "Lcom/example/strict_ledger/strictledger/RefusalCode;" (.ref w11)) (S23 : Exa Z h0 w11 "com/example/strict_ledger/strictledger/RefusalCode") (S24 : Sta Z h0 "com/example/strict_ledger/strictledger/RefusalCode" "INVARIANT_VIOLATION" "Lcom/example/strict_ledger/strictledger/RefusalCode;" (.ref w12)) (S25 : Exa Z h0 w12 "com/example/strict_ledger/strictledger/RefusalCode") (S26 : Sta Z h0 "com/example/strict_ledger/strictledger/RefusalCode" "UNKNOWN_ITEM" "Lcom/example/strict_ledger/strictledger/RefusalCode;" (.ref w13)) (S27 : Exa Z h0 w13 "com/example/strict_ledger/strictledger/RefusalCode") (S28 : Fld Z h0 w0 "java/lang/Enum" "ordinal" "I" (.int 0)) (S29 : Fld Z h0 w9 "java/lang/Enum" "ordinal" "I" (.int 9)) (S30 : Fld Z h0 w10 "java/lang/Enum" "ordinal" "I" (.int 10)) (S31 : Fld Z h0 w3 "java/lang/Enum" "ordinal" "I" (.int 3)) (S32 : Fld Z h0 w12 "java/lang/Enum" "ordinal" "I" (.int 12)) (S33 : Fld Z h0 w13 "java/lang/Enum" "ordinal" "I" (.int 13)) (S34 : Fld Z h0 w4 "java/lang/Enum" "ordinal" "I" (.int 4)) (S35 : Fld Z h0 w7 "java/lang/Enum" "ordinal" "I" (.int 7)) (S36 : Fld Z h0 w2 "java/lang/Enum" "ordinal" "I" (.int 2)) (S37 : Fld Z h0 w11 "java/lang/Enum" "ordinal" "I" (.int 11)) (S38 : Fld Z h0 w8 "java/lang/Enum" "ordinal" "I" (.int 8)) (S39 : Fld Z h0 w1 "java/lang/Enum" "ordinal" "I" (.int 1)) (S40 : Fld Z h0 w5 "java/lang/Enum" "ordinal" "I" (.int 5)) (S41 : Fld Z h0 w6 "java/lang/Enum" "ordinal" "I" (.int 6)) :
    MetFree l x (head1 (Jvm.Cond.code x code maxLocals ret :: ws) room_1) (fun a U => a = #[(.int i0)] ∧ Z.Warmed39 U.vm ∧ U.heap = h0) (fun _ _ _ _ _ => True) (fun _ U o U' => ∃ v L, o = .returned v ∧ QLaw n0 v U'.heap L ∧ FrameEnd U o U' L room_1.cells room_1.slots) := by
  rcases own_m14_2147483647 i0 with hk1 | hk1 | hk1 | hk1 | hk1 | hk1 | hk1 | hk1 | hk1 | hk1 | hk1 | hk1 | hk1 | hk1
  · exact rm0_1 l Z a0 hw ws i0 w0 w1 w2 w3 w4 w5 w6 w7 w8 w9 w10 w11 w12 w13 h0 n0 Z0 S0 S1 S2 S3 S4 S5 S6 S7 S8 S9 S10 S11 S12 S13 S14 S15 S16 S17 S18 S19 S20 S21 S22 S23 S24 S25 S26 S27 hk1 (Fld.ne S28 S29 (by decide)) (Fld.ne S28 S30 (by decide))
  · exact rm0_2 l Z a0 hw ws i0 w0 w1 w2 w3 w4 w5 w6 w7 w8 w9 w10 w11 w12 w13 h0 n0 Z0 S0 S1 S2 S3 S4 S5 S6 S7 S8 S9 S10 S11 S12 S13 S14 S15 S16 S17 S18 S19 S20 S21 S22 S23 S24 S25 S26 S27 hk1 (Fld.ne S39 S29 (by decide)) (Fld.ne S39 S30 (by decide))
  · exact rm0_3 l Z a0 hw ws i0 w0 w1 w2 w3 w4 w5 w6 w7 w8 w9 w10 w11 w12 w13 h0 n0 Z0 S0 S1 S2 S3 S4 S5 S6 S7 S8 S9 S10 S11 S12 S13 S14 S15 S16 S17 S18 S19 S20 S21 S22 S23 S24 S25 S26 S27 hk1 (Fld.ne S36 S29 (by decide)) (Fld.ne S36 S30 (by decide))
  · exact rm0_4 l Z a0 hw ws i0 w0 w1 w2 w3 w4 w5 w6 w7 w8 w9 w10 w11 w12 w13 h0 n0 Z0 S0 S1 S2 S3 S4 S5 S6 S7 S8 S9 S10 S11 S12 S13 S14 S15 S16 S17 S18 S19 S20 S21 S22 S23 S24 S25 S26 S27 hk1 (Fld.ne S31 S29 (by decide)) (Fld.ne S31 S30 (by decide))
  · exact rm0_5 l Z a0 hw ws i0 w0 w1 w2 w3 w4 w5 w6 w7 w8 w9 w10 w11 w12 w13 h0 n0 Z0 S0 S1 S2 S3 S4 S5 S6 S7 S8 S9 S10 S11 S12 S13 S14 S15 S16 S17 S18 S19 S20 S21 S22 S23 S24 S25 S26 S27 hk1 (Fld.ne S34 S29 (by decide)) (Fld.ne S34 S30 (by decide))
  · exact rm0_6 l Z a0 hw ws i0 w0 w1 w2 w3 w4 w5 w6 w7 w8 w9 w10 w11 w12 w13 h0 n0 Z0 S0 S1 S2 S3 S4 S5 S6 S7 S8 S9 S10 S11 S12 S13 S14 S15 S16 S17 S18 S19 S20 S21 S22 S23 S24 S25 S26 S27 hk1 (Fld.ne S40 S29 (by decide)) (Fld.ne S40 S30 (by decide))
  · exact rm0_7 l Z a0 hw ws i0 w0 w1 w2 w3 w4 w5 w6 w7 w8 w9 w10 w11 w12 w13 h0 n0 Z0 S0 S1 S2 S3 S4 S5 S6 S7 S8 S9 S10 S11 S12 S13 S14 S15 S16 S17 S18 S19 S20 S21 S22 S23 S24 S25 S26 S27 hk1 (Fld.ne S41 S29 (by decide)) (Fld.ne S41 S30 (by decide))
  · exact rm0_8 l Z a0 hw ws i0 w0 w1 w2 w3 w4 w5 w6 w7 w8 w9 w10 w11 w12 w13 h0 n0 Z0 S0 S1 S2 S3 S4 S5 S6 S7 S8 S9 S10 S11 S12 S13 S14 S15 S16 S17 S18 S19 S20 S21 S22 S23 S24 S25 S26 S27 hk1 (Fld.ne S35 S29 (by decide)) (Fld.ne S35 S30 (by decide))
  · exact rm0_9 l Z a0 hw ws i0 w0 w1 w2 w3 w4 w5 w6 w7 w8 w9 w10 w11 w12 w13 h0 n0 Z0 S0 S1 S2 S3 S4 S5 S6 S7 S8 S9 S10 S11 S12 S13 S14 S15 S16 S17 S18 S19 S20 S21 S22 S23 S24 S25 S26 S27 hk1 (Fld.ne S38 S29 (by decide)) (Fld.ne S38 S30 (by decide))
  · exact rm0_11 l Z a0 hw ws i0 w0 w1 w2 w3 w4 w5 w6 w7 w8 w9 w10 w11 w12 w13 h0 n0 Z0 S0 S1 S2 S3 S4 S5 S6 S7 S8 S9 S10 S11 S12 S13 S14 S15 S16 S17 S18 S19 S20 S21 S22 S23 S24 S25 S26 S27 hk1
  · exact rm0_13 l Z a0 hw ws i0 w0 w1 w2 w3 w4 w5 w6 w7 w8 w9 w10 w11 w12 w13 h0 n0 Z0 S0 S1 S2 S3 S4 S5 S6 S7 S8 S9 S10 S11 S12 S13 S14 S15 S16 S17 S18 S19 S20 S21 S22 S23 S24 S25 S26 S27 hk1 (Fld.ne S30 S29 (by decide))
  · exact rm0_14 l Z a0 hw ws i0 w0 w1 w2 w3 w4 w5 w6 w7 w8 w9 w10 w11 w12 w13 h0 n0 Z0 S0 S1 S2 S3 S4 S5 S6 S7 S8 S9 S10 S11 S12 S13 S14 S15 S16 S17 S18 S19 S20 S21 S22 S23 S24 S25 S26 S27 hk1 (Fld.ne S37 S29 (by decide)) (Fld.ne S37 S30 (by decide))
  · exact rm0_15 l Z a0 hw ws i0 w0 w1 w2 w3 w4 w5 w6 w7 w8 w9 w10 w11 w12 w13 h0 n0 Z0 S0 S1 S2 S3 S4 S5 S6 S7 S8 S9 S10 S11 S12 S13 S14 S15 S16 S17 S18 S19 S20 S21 S22 S23 S24 S25 S26 S27 hk1 (Fld.ne S32 S29 (by decide)) (Fld.ne S32 S30 (by decide))
  · exact rm0_16 l Z a0 hw ws i0 w0 w1 w2 w3 w4 w5 w6 w7 w8 w9 w10 w11 w12 w13 h0 n0 Z0 S0 S1 S2 S3 S4 S5 S6 S7 S8 S9 S10 S11 S12 S13 S14 S15 S16 S17 S18 S19 S20 S21 S22 S23 S24 S25 S26 S27 hk1 (Fld.ne S33 S29 (by decide)) (Fld.ne S33 S30 (by decide))
set_option maxRecDepth 65536 in
set_option maxHeartbeats 40000000 in
theorem comes_1 {Post : Tables → Env → Array Value → State → Outcome → State → Prop} (hpost : ∀ tb e args s v u, (limb_1_1.after args s (.returned v) u = true ∧ limb_1_2.after args s (.returned v) u = true ∧ True) → FrameEnd s (.returned v) u (Jvm.fieldLocs frame_1_writes args s ++ Jvm.arrayLocs frame_1_arrays args s ++ Jvm.staticLocs frame_1_statics s) 16 128 → Post tb e args s (.returned v) u) :
    ArmFor flags0 classFile x code maxLocals ret World_1 tables_1 room_1 Calls_1 rest_1 Pre_1 Post := by
  intro l hfl _ _ p e ha hc hk s m args below hf hA hF happ hP
  obtain ⟨hcalls, hrest, hpre⟩ := hP
  obtain ⟨-, -, -, hnamed, -, -, -, hat⟩ := (Spec.applies_iff hf).mp happ
  obtain ⟨hg, hn⟩ := and_e (Cond.before_iff.mp (show (Jvm.Cond.and given_1 narrow_1).before args s = true from hpre))
  obtain ⟨g2, g3⟩ := and_e hg
  obtain ⟨v0, rfl⟩ : ∃ v0 : Value, args = #[v0] := by
    have hs : args.size = 1 := by simpa [Cond.value, given_1] using g2
    obtain ⟨L⟩ := args
    match L, hs with
    | [v0], _ => exact ⟨v0, rfl⟩
  have hw := fun d (hd : d ∈ tables_1) => atoms_spec (ws := Jvm.Cond.code x code maxLocals ret :: tables_1) hat d (List.mem_cons_of_mem _ hd)
  obtain ⟨i0, ei0⟩ := is_v g3
  obtain rfl : v0 = (.int i0) := Option.some.inj ei0
  have hfit : Fit s := fun {y c} hc i hi => by
    obtain ⟨ha, rfl⟩ := Array.getElem?_eq_some_iff.mp hc
    have q := List.all_eq_true.mp ((Array.all_eq_true_iff_forall_mem.mp hF) _ (Array.getElem_mem ha)) i (List.mem_range.mpr hi)
    simpa [Array.getElem?_eq_getElem hi] using q
  obtain ⟨g4, g5⟩ := and_e hn
  have c0 := g4
  obtain ⟨g6, g7⟩ := and_e g5
  have c1 := g6
  obtain ⟨g8, g9⟩ := and_e g7
  have c2 := g8
  obtain ⟨g10, g11⟩ := and_e g9
  have c3 := g10
  obtain ⟨g12, g13⟩ := and_e g11
  have c4 := g12
  obtain ⟨g14, g15⟩ := and_e g13
  have c5 := g14
  obtain ⟨g16, g17⟩ := and_e g15
  have c6 := g16
  obtain ⟨g18, g19⟩ := and_e g17
  have c7 := g18
  obtain ⟨g20, g21⟩ := and_e g19
  have c8 := g20
  obtain ⟨g22, g23⟩ := and_e g21
  have c9 := g22
  obtain ⟨g24, g25⟩ := and_e g23
  have c10 := g24
  obtain ⟨g26, g27⟩ := and_e g25
  have c11 := g26
  obtain ⟨g28, g29⟩ := and_e g27
  have c12 := g28
  obtain ⟨g30, g31⟩ := and_e g29
  have c13 := g30
  obtain ⟨g32, g33⟩ := and_e g31
  have c14 := g32
  obtain ⟨g34, g35⟩ := and_e g33
  have c15 := g34
  obtain ⟨g36, g37⟩ := and_e g35
  have c16 := g36
  obtain ⟨g38, g39⟩ := and_e g37
  have c17 := g38
  obtain ⟨g40, g41⟩ := and_e g39
  have c18 := g40
  obtain ⟨g42, g43⟩ := and_e g41
  have c19 := g42
  obtain ⟨g44, g45⟩ := and_e g43
  have c20 := g44
  obtain ⟨g46, g47⟩ := and_e g45
  have c21 := g46
  obtain ⟨g48, g49⟩ := and_e g47
  have c22 := g48
  obtain ⟨g50, g51⟩ := and_e g49
  have c23 := g50
  obtain ⟨g52, g53⟩ := and_e g51
  have c24 := g52
  obtain ⟨g54, g55⟩ := and_e g53
  have c25 := g54
  obtain ⟨g56, g57⟩ := and_e g55
  have c26 := g56
  have c27 := g57
  obtain ⟨w0, ew0⟩ := exa_v c0
  have S0 := Sta.start ew0 (Or.inr ⟨(ww hw 3 rfl), (ww hw 4 rfl)⟩)
  have S1 := Exa.start ew0 c0
  obtain ⟨w1, ew1⟩ := exa_v c1
  have S2 := Sta.start ew1 (Or.inr ⟨(ww hw 3 rfl), (ww hw 7 rfl)⟩)
  have S3 := Exa.start ew1 c1
  obtain ⟨w2, ew2⟩ := exa_v c2
  have S4 := Sta.start ew2 (Or.inr ⟨(ww hw 3 rfl), (ww hw 9 rfl)⟩)
  have S5 := Exa.start ew2 c2
  obtain ⟨w3, ew3⟩ := exa_v c3
  have S6 := Sta.start ew3 (Or.inr ⟨(ww hw 3 rfl), (ww hw 11 rfl)⟩)
  have S7 := Exa.start ew3 c3
  obtain ⟨w4, ew4⟩ := exa_v c4
  have S8 := Sta.start ew4 (Or.inr ⟨(ww hw 3 rfl), (ww hw 13 rfl)⟩)
  have S9 := Exa.start ew4 c4
  obtain ⟨w5, ew5⟩ := exa_v c5
  have S10 := Sta.start ew5 (Or.inr ⟨(ww hw 3 rfl), (ww hw 15 rfl)⟩)
  have S11 := Exa.start ew5 c5
  obtain ⟨w6, ew6⟩ := exa_v c6
  have S12 := Sta.start ew6 (Or.inr ⟨(ww hw 3 rfl), (ww hw 17 rfl)⟩)
  have S13 := Exa.start ew6 c6
  obtain ⟨w7, ew7⟩ := exa_v c7
  have S14 := Sta.start ew7 (Or.inr ⟨(ww hw 3 rfl), (ww hw 19 rfl)⟩)
  have S15 := Exa.start ew7 c7
  obtain ⟨w8, ew8⟩ := exa_v c8
  have S16 := Sta.start ew8 (Or.inr ⟨(ww hw 3 rfl), (ww hw 21 rfl)⟩)
  have S17 := Exa.start ew8 c8
  obtain ⟨w9, ew9⟩ := exa_v c9
  have S18 := Sta.start ew9 (Or.inr ⟨(ww hw 3 rfl), (ww hw 23 rfl)⟩)
  have S19 := Exa.start ew9 c9
  obtain ⟨w10, ew10⟩ := exa_v c10
  have S20 := Sta.start ew10 (Or.inr ⟨(ww hw 3 rfl), (ww hw 25 rfl)⟩)
  have S21 := Exa.start ew10 c10
  obtain ⟨w11, ew11⟩ := exa_v c11
  have S22 := Sta.start ew11 (Or.inr ⟨(ww hw 3 rfl), (ww hw 27 rfl)⟩)
  have S23 := Exa.start ew11 c11
  obtain ⟨w12, ew12⟩ := exa_v c12
  have S24 := Sta.start ew12 (Or.inr ⟨(ww hw 3 rfl), (ww hw 29 rfl)⟩)
  have S25 := Exa.start ew12 c12
  obtain ⟨w13, ew13⟩ := exa_v c13
  have S26 := Sta.start ew13 (Or.inr ⟨(ww hw 3 rfl), (ww hw 31 rfl)⟩)
  have S27 := Exa.start ew13 c13
  have S28 := own_fldI ew0 c14
  have S29 := own_fldI ew9 c15
  have S30 := own_fldI ew10 c16
  have S31 := own_fldI ew3 c17
  have S32 := own_fldI ew12 c18
  have S33 := own_fldI ew13 c19
  have S34 := own_fldI ew4 c20
  have S35 := own_fldI ew7 c21
  have S36 := own_fldI ew2 c22
  have S37 := own_fldI ew11 c23
  have S38 := own_fldI ew8 c24
  have S39 := own_fldI ew1 c25
  have S40 := own_fldI ew5 c26
  have S41 := own_fldI ew6 c27
  obtain ⟨n, o, h1, h2, h3, _, L, rfl, ⟨rfl, N⟩, hq⟩ := law_all l s _ hw tables_1 i0 w0 w1 w2 w3 w4 w5 w6 w7 w8 w9 w10 w11 w12 w13 s.heap s.heap.size (Nat.le_refl _) S0 S1 S2 S3 S4 S5 S6 S7 S8 S9 S10 S11 S12 S13 S14 S15 S16 S17 S18 S19 S20 S21 S22 S23 S24 S25 S26 S27 S28 S29 S30 S31 S32 S33 S34 S35 S36 S37 S38 S39 S40 S41 p e ha hc hk s m _ below hf ((Spec.applies_iff_loose hf).mp happ).1 ⟨rfl, State.Warmed39.refl s, rfl⟩ trivial
  refine ⟨n, _, h1, h2, h3, hpost _ _ _ _ _ _ ⟨Cond.after_iff.mpr rfl, Cond.after_iff.mpr (eq_i res_at (Term.int_eval (1)) rfl), trivial⟩ ⟨hq.1, hq.2.1, (hq.2.2.sift fun y hy => Or.inr (N y hy)).mono (by decide) (by decide)⟩⟩
theorem main_1_1 : Claimed_1_1 := comes_1 fun _ _ _ _ _ _ h hF => ⟨h.1, hF⟩
theorem main_1_2 : Claimed_1_2 := comes_1 fun _ _ _ _ _ _ h hF => ⟨h.2.1, hF⟩
end Jvm.Pilot.@@N@@
namespace Jvm.Pilot.@@N@@
open Jvm Jvm.ClassFile Sem Op Lib Jvm.Free Jvm.Stand Jvm.Pilot.@@N@@.Jvm.D
/-! MADE BY PROGRAM (witnessworld.py) out of the Statement's table words and the real class files: 13 classes; the members and pool entries that the words name. The judged class is class 1, her method 1. -/
namespace start1
open Jvm.ClassFile
def u (s : String) : CpInfo := .utf8 (stringToUtf16 s)
/-- a pool by its gaps: so many unusable entries, then the entry; so many at the end -/
def gap : Nat → List CpInfo → List CpInfo
  | 0, r => r
  | n + 1, r => .unusable :: gap n r
def poolList (es : List (Nat × CpInfo)) (last : Nat) : List CpInfo := es.foldr (fun e r => gap e.1 (e.2 :: r)) (gap last [])
def pool (es : List (Nat × CpInfo)) (last : Nat) : Array CpInfo := ⟨poolList es last⟩
def fileOf (pool : Array CpInfo) (this : Nat) (attrs : Array Attribute := #[]) (ms : Array MethodInfo := #[]) (fl : Nat := 33) (sup : Nat := 0) (ifs : Array Nat := #[]) (fds : Array FieldInfo := #[]) : ClassFile where
  minorVersion := 0
  majorVersion := 65
  constantPool := pool
  accessFlags := fl
  thisClass := this
  superClass := sup
  interfaces := ifs
  fields := fds
  methods := ms
  attributes := attrs
def plain (name : String) (sup : Option ClassId) : Class where
  name := name
  kind := .ordinary
  loader := none
  accessFlags := 33
  super := sup
  interfaces := #[]
  cf := none
  fields := #[]
  methods := #[]
  instanceTypes := #[]
  staticTypes := #[]
  resolved := #[]
  callSites := []
  init := .initialized
  statics := none
  mirror := none

def pool0 : Array CpInfo := pool [(5, u "<init>"), (0, u "()V"), (1, .class_ 10), (1, u "java/lang/Object")] 113

def k0m0 : Method := { name := "<init>", desc := "()V", sig := { parameters := [], returnType := none }, accessFlags := 1, code := none }
/-- java/lang/Object -/
def k0 : Class := { plain "java/lang/Object" none with
  accessFlags := 33
  interfaces := #[]
  cf := some (fileOf pool0 8 #[] #[{ accessFlags := 1, nameIndex := 5, descriptorIndex := 6, attributes := #[] }] 33 0 #[] #[])
  fields := #[]
  methods := #[k0m0]
  instanceTypes := #[]
  staticTypes := #[]
  resolved := Array.replicate 124 none
  statics := none }

def pool1 : Array CpInfo := pool [(2, .class_ 4), (1, u "java/lang/Object"), (0, u "<init>"), (0, u "()V"), (0, .class_ 8), (0, u "com/example/strict_ledger/strictledger/RefusalCode"), (0, .fieldref 7 10), (0, .nameAndType 11 12), (0, u "ILLEGAL_TRANSITION"), (0, u "Lcom/example/strict_ledger/strictledger/RefusalCode;"), (0, .fieldref 7 14), (0, .nameAndType 15 12), (0, u "DUPLICATE_TERMINAL"), (0, .fieldref 7 17), (0, .nameAndType 18 12), (0, u "PRECONDITION_FAILED"), (0, .fieldref 7 20), (0, .nameAndType 21 12), (0, u "VERSION_CONFLICT"), (0, .fieldref 7 23), (0, .nameAndType 24 12), (0, u "LEASE_REQUIRED"), (0, .fieldref 7 26), (0, .nameAndType 27 12), (0, u "LEASE_MISMATCH"), (0, .fieldref 7 29), (0, .nameAndType 30 12), (0, u "RETRY_NOT_ALLOWED"), (0, .fieldref 7 32), (0, .nameAndType 33 12), (0, u "NOT_ACTIVE_STEP"), (0, .fieldref 7 35), (0, .nameAndType 36 12), (0, u "IDEMPOTENCY_CONFLICT"), (0, .fieldref 7 38), (0, .nameAndType 39 12), (0, u "INVALID_JSON"), (0, .fieldref 7 41), (0, .nameAndType 42 12), (0, u "INVALID_TEXT"), (0, .fieldref 7 44), (0, .nameAndType 45 12), (0, u "COUNTER_OVERFLOW"), (0, .fieldref 7 47), (0, .nameAndType 48 12), (0, u "INVARIANT_VIOLATION"), (0, .fieldref 7 50), (0, .nameAndType 51 12), (0, u "UNKNOWN_ITEM"), (0, .integer 2147483647), (0, .methodref 7 54), (0, .nameAndType 55 56), (0, u "isAboutText"), (0, u "()Z"), (0, .class_ 58), (0, u "com/example/strict_ledger/strictledger/RefusalCodeIsAboutTextPinLaw"), (2, u "law"), (0, u "(I)Z")] 5

def k1m0 : Method := { name := "<init>", desc := "()V", sig := { parameters := [], returnType := none }, accessFlags := 1, code := none }
def k1c1 : Code := { maxStack := 4, maxLocals := 5, code := code, exceptionTable := #[], attributes := #[] }
def k1m1 : Method := { name := "law", desc := "(I)Z", sig := { parameters := [.int], returnType := some .boolean }, accessFlags := 9, code := some k1c1 }
/-- com/example/strict_ledger/strictledger/RefusalCodeIsAboutTextPinLaw -/
def k1 : Class := { plain "com/example/strict_ledger/strictledger/RefusalCodeIsAboutTextPinLaw" (some 0) with
  accessFlags := 49
  interfaces := #[]
  cf := some (fileOf pool1 57 #[] #[{ accessFlags := 1, nameIndex := 5, descriptorIndex := 6, attributes := #[] }, { accessFlags := 9, nameIndex := 61, descriptorIndex := 62, attributes := #[] }] 49 2 #[] #[])
  fields := #[]
  methods := #[k1m0, k1m1]
  instanceTypes := #[]
  staticTypes := #[]
  resolved := Array.replicate 68 none
  statics := none }

def pool2 : Array CpInfo := pool [(1, .class_ 2), (0, u "java/lang/constant/Constable"), (0, .class_ 4), (0, u "java/lang/Object")] 6

/-- java/lang/constant/Constable -/
def k2 : Class := { plain "java/lang/constant/Constable" (some 0) with
  accessFlags := 1537
  interfaces := #[]
  cf := some (fileOf pool2 1 #[] #[] 1537 3 #[] #[])
  fields := #[]
  methods := #[]
  instanceTypes := #[]
  staticTypes := #[]
  resolved := Array.replicate 11 none
  statics := none }

def pool3 : Array CpInfo := pool [(1, .class_ 2), (0, u "java/lang/Comparable"), (0, .class_ 4), (0, u "java/lang/Object")] 7

/-- java/lang/Comparable -/
def k3 : Class := { plain "java/lang/Comparable" (some 0) with
  accessFlags := 1537
  interfaces := #[]
  cf := some (fileOf pool3 1 #[] #[] 1537 3 #[] #[])
  fields := #[]
  methods := #[]
  instanceTypes := #[]
  staticTypes := #[]
  resolved := Array.replicate 12 none
  statics := none }

def pool4 : Array CpInfo := pool [(1, .class_ 2), (0, u "java/io/Serializable"), (0, .class_ 4), (0, u "java/lang/Object")] 2

/-- java/io/Serializable -/
def k4 : Class := { plain "java/io/Serializable" (some 0) with
  accessFlags := 1537
  interfaces := #[]
  cf := some (fileOf pool4 1 #[] #[] 1537 3 #[] #[])
  fields := #[]
  methods := #[]
  instanceTypes := #[]
  staticTypes := #[]
  resolved := Array.replicate 7 none
  statics := none }

def pool5 : Array CpInfo := pool [(2, .class_ 4), (1, u "java/lang/Enum"), (0, u "name"), (0, u "Ljava/lang/String;"), (2, u "ordinal"), (0, u "I"), (1, .class_ 14), (1, u "java/lang/Object"), (4, u "hash"), (86, .class_ 108), (1, u "java/lang/Enum$EnumDesc"), (2, .class_ 112), (0, u "java/lang/constant/Constable"), (0, .class_ 114), (0, u "java/lang/Comparable"), (0, .class_ 116), (0, u "java/io/Serializable")] 87

/-- java/lang/Enum -/
def k5 : Class := { plain "java/lang/Enum" (some 0) with
  accessFlags := 1057
  interfaces := #[2, 3, 4]
  cf := some (fileOf pool5 2 #[.nestMembers #[106]] #[] 1057 12 #[111, 113, 115] #[{ accessFlags := 18, nameIndex := 5, descriptorIndex := 6, attributes := #[] }, { accessFlags := 18, nameIndex := 9, descriptorIndex := 10, attributes := #[] }, { accessFlags := 2, nameIndex := 19, descriptorIndex := 10, attributes := #[] }])
  fields := #[{ name := "name", type := (.object "java/lang/String"), accessFlags := 18, slot := 0, constantValue := 0 }, { name := "ordinal", type := .int, accessFlags := 18, slot := 1, constantValue := 0 }, { name := "hash", type := .int, accessFlags := 2, slot := 2, constantValue := 0 }]
  methods := #[]
  instanceTypes := #[(.object "java/lang/String"), .int, .int]
  staticTypes := #[]
  resolved := Array.replicate 204 none
  statics := none }

def pool6 : Array CpInfo := pool [(1, .class_ 2), (0, u "com/example/strict_ledger/strictledger/RefusalCode"), (2, u "ILLEGAL_TRANSITION"), (0, u "Lcom/example/strict_ledger/strictledger/RefusalCode;"), (2, u "DUPLICATE_TERMINAL"), (2, u "PRECONDITION_FAILED"), (2, u "VERSION_CONFLICT"), (2, u "LEASE_REQUIRED"), (2, u "LEASE_MISMATCH"), (2, u "RETRY_NOT_ALLOWED"), (2, u "NOT_ACTIVE_STEP"), (2, u "IDEMPOTENCY_CONFLICT"), (0, .fieldref 1 32), (0, .nameAndType 33 6), (0, u "INVALID_JSON"), (0, .fieldref 1 35), (0, .nameAndType 36 6), (0, u "INVALID_TEXT"), (2, u "COUNTER_OVERFLOW"), (2, u "INVARIANT_VIOLATION"), (2, u "UNKNOWN_ITEM"), (2, u "$VALUES"), (0, u "[Lcom/example/strict_ledger/strictledger/RefusalCode;"), (6, .class_ 58), (1, u "java/lang/Enum"), (32, u "isAboutText"), (0, u "()Z")] 5

def k6c0 : Code := { maxStack := 2, maxLocals := 1, code := prog_20_method_4_code, exceptionTable := #[], attributes := #[] }
def k6m0 : Method := { name := "isAboutText", desc := "()Z", sig := { parameters := [], returnType := some .boolean }, accessFlags := 1, code := some k6c0 }
/-- com/example/strict_ledger/strictledger/RefusalCode -/
def k6 : Class := { plain "com/example/strict_ledger/strictledger/RefusalCode" (some 5) with
  accessFlags := 16433
  interfaces := #[]
  cf := some (fileOf pool6 1 #[] #[{ accessFlags := 1, nameIndex := 91, descriptorIndex := 92, attributes := #[] }] 16433 56 #[] #[{ accessFlags := 16409, nameIndex := 5, descriptorIndex := 6, attributes := #[] }, { accessFlags := 16409, nameIndex := 9, descriptorIndex := 6, attributes := #[] }, { accessFlags := 16409, nameIndex := 12, descriptorIndex := 6, attributes := #[] }, { accessFlags := 16409, nameIndex := 15, descriptorIndex := 6, attributes := #[] }, { accessFlags := 16409, nameIndex := 18, descriptorIndex := 6, attributes := #[] }, { accessFlags := 16409, nameIndex := 21, descriptorIndex := 6, attributes := #[] }, { accessFlags := 16409, nameIndex := 24, descriptorIndex := 6, attributes := #[] }, { accessFlags := 16409, nameIndex := 27, descriptorIndex := 6, attributes := #[] }, { accessFlags := 16409, nameIndex := 30, descriptorIndex := 6, attributes := #[] }, { accessFlags := 16409, nameIndex := 33, descriptorIndex := 6, attributes := #[] }, { accessFlags := 16409, nameIndex := 36, descriptorIndex := 6, attributes := #[] }, { accessFlags := 16409, nameIndex := 39, descriptorIndex := 6, attributes := #[] }, { accessFlags := 16409, nameIndex := 42, descriptorIndex := 6, attributes := #[] }, { accessFlags := 16409, nameIndex := 45, descriptorIndex := 6, attributes := #[] }, { accessFlags := 4122, nameIndex := 48, descriptorIndex := 49, attributes := #[] }])
  fields := #[{ name := "ILLEGAL_TRANSITION", type := (.object "com/example/strict_ledger/strictledger/RefusalCode"), accessFlags := 16409, slot := 0, constantValue := 0 }, { name := "DUPLICATE_TERMINAL", type := (.object "com/example/strict_ledger/strictledger/RefusalCode"), accessFlags := 16409, slot := 1, constantValue := 0 }, { name := "PRECONDITION_FAILED", type := (.object "com/example/strict_ledger/strictledger/RefusalCode"), accessFlags := 16409, slot := 2, constantValue := 0 }, { name := "VERSION_CONFLICT", type := (.object "com/example/strict_ledger/strictledger/RefusalCode"), accessFlags := 16409, slot := 3, constantValue := 0 }, { name := "LEASE_REQUIRED", type := (.object "com/example/strict_ledger/strictledger/RefusalCode"), accessFlags := 16409, slot := 4, constantValue := 0 }, { name := "LEASE_MISMATCH", type := (.object "com/example/strict_ledger/strictledger/RefusalCode"), accessFlags := 16409, slot := 5, constantValue := 0 }, { name := "RETRY_NOT_ALLOWED", type := (.object "com/example/strict_ledger/strictledger/RefusalCode"), accessFlags := 16409, slot := 6, constantValue := 0 }, { name := "NOT_ACTIVE_STEP", type := (.object "com/example/strict_ledger/strictledger/RefusalCode"), accessFlags := 16409, slot := 7, constantValue := 0 }, { name := "IDEMPOTENCY_CONFLICT", type := (.object "com/example/strict_ledger/strictledger/RefusalCode"), accessFlags := 16409, slot := 8, constantValue := 0 }, { name := "INVALID_JSON", type := (.object "com/example/strict_ledger/strictledger/RefusalCode"), accessFlags := 16409, slot := 9, constantValue := 0 }, { name := "INVALID_TEXT", type := (.object "com/example/strict_ledger/strictledger/RefusalCode"), accessFlags := 16409, slot := 10, constantValue := 0 }, { name := "COUNTER_OVERFLOW", type := (.object "com/example/strict_ledger/strictledger/RefusalCode"), accessFlags := 16409, slot := 11, constantValue := 0 }, { name := "INVARIANT_VIOLATION", type := (.object "com/example/strict_ledger/strictledger/RefusalCode"), accessFlags := 16409, slot := 12, constantValue := 0 }, { name := "UNKNOWN_ITEM", type := (.object "com/example/strict_ledger/strictledger/RefusalCode"), accessFlags := 16409, slot := 13, constantValue := 0 }, { name := "$VALUES", type := (.array (.object "com/example/strict_ledger/strictledger/RefusalCode")), accessFlags := 4122, slot := 14, constantValue := 0 }]
  methods := #[k6m0]
  instanceTypes := #[(.object "java/lang/String"), .int, .int]
  staticTypes := #[(.object "com/example/strict_ledger/strictledger/RefusalCode"), (.object "com/example/strict_ledger/strictledger/RefusalCode"), (.object "com/example/strict_ledger/strictledger/RefusalCode"), (.object "com/example/strict_ledger/strictledger/RefusalCode"), (.object "com/example/strict_ledger/strictledger/RefusalCode"), (.object "com/example/strict_ledger/strictledger/RefusalCode"), (.object "com/example/strict_ledger/strictledger/RefusalCode"), (.object "com/example/strict_ledger/strictledger/RefusalCode"), (.object "com/example/strict_ledger/strictledger/RefusalCode"), (.object "com/example/strict_ledger/strictledger/RefusalCode"), (.object "com/example/strict_ledger/strictledger/RefusalCode"), (.object "com/example/strict_ledger/strictledger/RefusalCode"), (.object "com/example/strict_ledger/strictledger/RefusalCode"), (.object "com/example/strict_ledger/strictledger/RefusalCode"), (.array (.object "com/example/strict_ledger/strictledger/RefusalCode"))]
  resolved := Array.replicate 98 none
  statics := some 0 }

def pool7 : Array CpInfo := pool [(1, u "java/lang/Cloneable"), (0, .class_ 1), (0, u "java/lang/Object"), (0, .class_ 3)] 3

/-- java/lang/Cloneable -/
def k7 : Class := { plain "java/lang/Cloneable" (some 0) with
  accessFlags := 1537
  interfaces := #[]
  cf := some (fileOf pool7 2 #[] #[] 1537 4 #[] #[])
  fields := #[]
  methods := #[]
  instanceTypes := #[]
  staticTypes := #[]
  resolved := Array.replicate 8 none
  statics := none }

/-- the primitive byte -/
def k8 : Class := { plain "byte" none with kind := .primitive 'B', accessFlags := 0x411 }
/-- [B -/
def k9 : Class := { plain "[B" (some 0) with kind := .array 8 .byte, interfaces := #[7, 4], accessFlags := 1041 }

/-- the primitive int -/
def k10 : Class := { plain "int" none with kind := .primitive 'I', accessFlags := 0x411 }
/-- [I -/
def k11 : Class := { plain "[I" (some 0) with kind := .array 10 .int, interfaces := #[7, 4], accessFlags := 1041 }

/-- [Lcom/example/strict_ledger/strictledger/RefusalCode; -/
def k12 : Class := { plain "[Lcom/example/strict_ledger/strictledger/RefusalCode;" (some 0) with kind := .array 6 (.object "com/example/strict_ledger/strictledger/RefusalCode"), interfaces := #[7, 4], accessFlags := 1041 }

def heap : Heap := #[{ cls := 6, slots := #[.ref 1, .ref 2, .ref 3, .ref 4, .ref 5, .ref 6, .ref 7, .ref 8, .ref 9, .ref 10, .ref 11, .ref 12, .ref 13, .ref 14, .null], vm := .statics 6 },
  { cls := 6, slots := #[.null, .int 0, .int 0], vm := .none },
  { cls := 6, slots := #[.null, .int 1, .int 0], vm := .none },
  { cls := 6, slots := #[.null, .int 2, .int 0], vm := .none },
  { cls := 6, slots := #[.null, .int 3, .int 0], vm := .none },
  { cls := 6, slots := #[.null, .int 4, .int 0], vm := .none },
  { cls := 6, slots := #[.null, .int 5, .int 0], vm := .none },
  { cls := 6, slots := #[.null, .int 6, .int 0], vm := .none },
  { cls := 6, slots := #[.null, .int 7, .int 0], vm := .none },
  { cls := 6, slots := #[.null, .int 8, .int 0], vm := .none },
  { cls := 6, slots := #[.null, .int 9, .int 0], vm := .none },
  { cls := 6, slots := #[.null, .int 10, .int 0], vm := .none },
  { cls := 6, slots := #[.null, .int 11, .int 0], vm := .none },
  { cls := 6, slots := #[.null, .int 12, .int 0], vm := .none },
  { cls := 6, slots := #[.null, .int 13, .int 0], vm := .none }]
def classes : Array Class := #[k0, k1, k2, k3, k4, k5, k6, k7, k8, k9, k10, k11, k12]
def interned : List (Array UInt16 × Addr) := []
def slotsUsed : Nat := 57
def theMethod : MethodId := ⟨1, 1⟩
def args0 : Array Value := #[.int 5]
def aboutOver (below : List Frame) : State where
  vm := { classes := classes, interned := interned.toArray }
  heap := heap
  slotsUsed := slotsUsed
  threads := #[{ frames := .invoking theMethod args0 :: below }]
def below0 : List Frame := [.native { method := ⟨0, 0⟩, args := #[] }]
def about1 : State := aboutOver below0
def p0 : Program := .bare "" "" ""
def e0 : Env := launch0.env 0 0 0
theorem w_frames : about1.frames = Frame.invoking theMethod args0 :: below0 := rfl
set_option maxRecDepth 65536 in
theorem w_args : argsFit about1.vm theMethod args0 = true := by decide +kernel
set_option maxRecDepth 65536 in
theorem w_heap : heapFits about1 = true := by decide +kernel
set_option maxRecDepth 65536 in
theorem w_runnable : about1.curStatus? = some .runnable := by decide +kernel
set_option maxRecDepth 65536 in
theorem w_alone : about1.alone = true := by decide +kernel
set_option maxRecDepth 65536 in
theorem w_named : about1.methodNamed? x = some theMethod := by decide +kernel
set_option maxRecDepth 65536 in
theorem w_hears : about1.hears theMethod below0 = true := by decide +kernel
set_option maxRecDepth 65536 in
theorem w_ripe : about1.ripe theMethod args0 below0 = true := by decide +kernel
theorem w_running : about1.status = .running := rfl
set_option maxRecDepth 65536 in
theorem w_room : about1.hasRoom e0.platform room_1 = true :=
  launch0.hasRoom_least _ room_1 (by decide +kernel) (by decide +kernel) (by decide +kernel) (by decide +kernel) (by decide +kernel) (by decide +kernel)
theorem allAtoms_all (ts : List Jvm.Cond) (a : Array Jvm.Value) (st : Jvm.State) : (allAtoms ts).before a st = ts.all (fun c => c.before a st) := by
  induction ts with
  | nil => rfl
  | cons c t ih =>
    show (Jvm.Cond.and c (allAtoms t)).before a st = _
    rw [Jvm.Cond.before_and, ih, List.all_cons]
def words1 : List Jvm.Cond := Jvm.Cond.code x code maxLocals ret :: tables_1
/-- a 'code' word, met by the world's own term for the bytes: nothing is compared byte by byte -/
theorem code_word {y : MethodName} {bytes : ByteArray} {mx : Nat} {rt : Option FieldType} {a : Array Value} {s : State} {m : MethodId} {meth : Method} {c : Code} (h1 : s.methodNamed? y = some m) (h2 : s.vm.method? m = some meth) (h3 : meth.code = some c) (h4 : c.code = bytes)
    (h5 : (c.maxLocals == mx && c.exceptionTable.isEmpty && decide (c.maxStack ≤ mostOperands) && decide (meth.sig.returnType = rt) && !meth.locks && decide (parseMethodDescriptor y.desc = some meth.sig)) = true) : (Jvm.Cond.code y bytes mx rt).before a s = true := by
  simp only [Bool.and_eq_true, beq_iff_eq, Bool.not_eq_true', decide_eq_true_eq] at h5
  obtain ⟨⟨⟨⟨⟨g1, g2⟩, g3⟩, g4⟩, g5⟩, g6⟩ := h5
  simp [Cond.before, Cond.holds, Cond.value, h1, h2, h3, h4, g1, g2, g3, g4, g5, g6]
def isCode : Jvm.Cond → Bool
  | .code _ _ _ _ => true
  | _ => false
theorem all_split {L : List Jvm.Cond} {P : Jvm.Cond → Bool} (h1 : L.all (fun c => isCode c || P c) = true) (h2 : ∀ c ∈ L.filter isCode, P c = true) : L.all P = true := by
  refine List.all_eq_true.mpr fun c hc => ?_
  have h := List.all_eq_true.mp h1 c hc
  rcases Bool.eq_false_or_eq_true (isCode c) with hi | hi
  · exact h2 c (List.mem_filter.mpr ⟨hc, hi⟩)
  · simpa [hi] using h
set_option maxRecDepth 65536 in
theorem w_c0 : (Jvm.Cond.code x code maxLocals ret).before args0 about1 = true := code_word (m := ⟨1, 1⟩) (meth := k1m1) (c := k1c1) (by decide +kernel) rfl rfl rfl (by decide +kernel)
set_option maxRecDepth 65536 in
theorem w_c1 : (Jvm.Cond.code ({ cls := "com/example/strict_ledger/strictledger/RefusalCode", name := "isAboutText", desc := "()Z" } : Jvm.MethodName) prog_20_method_4_code (1 : Nat) (Option.some Jvm.ClassFile.FieldType.boolean)).before args0 about1 = true := code_word (m := ⟨6, 0⟩) (meth := k6m0) (c := k6c0) (by decide +kernel) rfl rfl rfl (by decide +kernel)
def codes1 : List Jvm.Cond := [Jvm.Cond.code x code maxLocals ret, Jvm.Cond.code ({ cls := "com/example/strict_ledger/strictledger/RefusalCode", name := "isAboutText", desc := "()Z" } : Jvm.MethodName) prog_20_method_4_code (1 : Nat) (Option.some Jvm.ClassFile.FieldType.boolean)]
set_option maxRecDepth 65536 in
theorem codes_eq : words1.filter isCode = codes1 := rfl
theorem w_codes : ∀ c ∈ words1.filter isCode, c.before args0 about1 = true := by
  rw [codes_eq]
  intro c hc
  simp only [codes1, List.mem_cons, List.not_mem_nil, or_false] at hc
  rcases hc with rfl | rfl
  · exact w_c0
  · exact w_c1
set_option maxRecDepth 65536 in
theorem w_t1 : (words1.take 24).all (fun c => isCode c || c.before args0 about1) = true := by decide +kernel
set_option maxRecDepth 65536 in
theorem w_t2 : (words1.drop 24).all (fun c => isCode c || c.before args0 about1) = true := by decide +kernel
theorem w_tables : (allAtoms (Jvm.Cond.code x code maxLocals ret :: tables_1)).before args0 about1 = true := by
  rw [allAtoms_all]
  show words1.all (fun c => c.before args0 about1) = true
  refine all_split ?_ w_codes
  rw [← List.take_append_drop 24 words1, List.all_append, w_t1, w_t2]
  rfl
set_option maxRecDepth 65536 in
theorem w_case : (Jvm.Cond.and given_1 narrow_1).before args0 about1 = true := by decide +kernel
theorem w_applies : (headSpec (Jvm.Cond.code x code maxLocals ret :: tables_1) room_1).applies x e0.platform about1 = true :=
  (Spec.applies_iff w_frames).mpr ⟨w_running, w_runnable, w_alone, w_named, w_hears, w_ripe, w_room, w_tables⟩
theorem atStart : AtStart classFile x code maxLocals ret World_1 tables_1 room_1 Calls_1 rest_1 Pre_1 launch0 p0 e0 about1 theMethod args0 below0 :=
  ⟨lists_1, trivial, launch0.admits_env _ _ _, launch0.least_env, fairChoices_fair.cas, fairChoices_fair.clock, w_frames, w_args, w_heap, w_applies, trivial, trivial, w_case⟩
end start1
theorem witness_1 : WitnessClaimed_1 := ⟨start1.p0, start1.e0, start1.about1, start1.theMethod, start1.args0, start1.below0, start1.atStart⟩
end Jvm.Pilot.@@N@@
