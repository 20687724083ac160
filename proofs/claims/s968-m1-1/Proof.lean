import JvmDerived
import JvmDerived.Pilot.@@N@@Statement
import JvmDerived.Pilot.@@N@@Code
set_option linter.unusedVariables false
set_option linter.unusedSimpArgs false
namespace Jvm.RoadKit
open Sem ClassFile Op Lib Jvm.Stand Jvm.Free Jvm.LawKit
section New
variable {p : Program} {l : Launch} {e : Env} {R : Room} {s : State} {m : MethodId} {args : Array Value} {below : List Frame} {meth : Method} {c : Code} {T : State} {locs : List Loc} {cells slots : Nat}
theorem retI (X : Stand p l e R s m args below meth c T locs cells slots) (hx : p.tables.exec = Jvm.exec) {pc : Nat} {Ls : Array Slot} {z : Int32} {rest : List Value} (hret : meth.sig.returnType = some .int) (hd : decode c.code pc = .ok (.ireturn, 1)) {fs : List Frame}
    (hl : ∀ (f : JFrame) (acts : List Action), f.method = m → f.locked = none → f.entered = [] → (doReturn e (T.setTop f) acts (some (.int z))).1 = T.setFrames fs) : Steps p.tables e below (T.setTop (mkF m pc Ls (.int z :: rest))) (T.setFrames fs) := by
  have hm' : T.vm.method? m = some meth := X.method'
  have hn : narrow .int (.int z) = .int z := rfl
  show Steps p.tables e below (T.setTop { method := m, pc := pc, locals := Ls, stack := _ :: rest, locked := none }) _
  jvm_step X.here [X.here.top, hx, hd, hm', hret, hn]
  first | (intro acts; rw [hl _ acts rfl rfl rfl]) | rw [hl _ _ rfl rfl rfl]
  exact Steps.refl _
end New
/-! the walk's own frame: a goal that is met by going on -/
section Own
variable {tb : Tables} {e : Env} {below : List Frame} {R : State → Outcome → Prop} {U U' T : State}
def own_G (tb : Tables) (e : Env) (below : List Frame) (R : State → Outcome → Prop) (U : State) : Prop := ∃ f o, Steps tb e below U f ∧ R f o
theorem own_pre {g g' : JFrame} (q : g = g') (h : own_G tb e below R (T.setTop g')) : ∃ f o, Steps tb e below (T.setTop g) f ∧ R f o := by rw [q]; exact h
theorem own_go (st : ∀ t, Steps tb e below U' t → Steps tb e below U t) (h : own_G tb e below R U') : own_G tb e below R U := by
  obtain ⟨f, o, h1, h2⟩ := h; exact ⟨f, o, st _ h1, h2⟩
theorem own_out (h : ∃ f o, Steps tb e below U f ∧ R f o) : own_G tb e below R U := h
end Own
section OwnFacts
variable {Z : State} {h h' : Heap} {a : Addr} {ws : List Addr} {C n d : String} {v : Value} {b : Bool}
def own_NS (h : Heap) (a : Addr) : Prop := ∃ c : Cell, h[a]? = some c ∧ c.vm.isStatics = false
theorem own_nsE (F : Exa Z h a C) : own_NS h a := by obtain ⟨c, k, h1, -, -, h4, -⟩ := F; exact ⟨c, h1, h4⟩
theorem own_nsF (F : Fld Z h a C n d v) : own_NS h a := by obtain ⟨c, _, _, _, _, h1, -, -, -, h5, -⟩ := F; exact ⟨c, h1, h5⟩
theorem own_nsV {k : ClassId} {ty : FieldType} {z : Int32} {vs : List Value} {dv : Value} (F : Arv Z h a k ty z vs dv) : own_NS h a := by obtain ⟨c, A, -⟩ := F; exact ⟨c, A.1, A.plain⟩
theorem own_staK (F : Sta Z h C n d v) (K : Keep h h' ws) (q : ∀ x ∈ ws, own_NS h x) : Sta Z h' C n d v := by
  obtain ⟨cf, i, k, f, st, cell, h1, h2, h3, h4, h5, h6, h7⟩ := F
  refine ⟨cf, i, k, f, st, cell, h1, h2, h3, h4, K.2.1 st cell h5 (fun hm => ?_), h6, h7⟩
  obtain ⟨c, e1, e2⟩ := q st hm
  cases h5.symm.trans e1
  rw [e2] at h6; cases h6
theorem own_insK (F : Ins Z h a C b) (K : Keep h h' ws) : Ins Z h' a C b := by
  obtain ⟨cell, cT, h1, h2, h3⟩ := F
  obtain ⟨c', e1, e2, e3, -⟩ := K.2.2 a cell h1
  exact ⟨c', cT, e1, h2, by rw [e2, e3]; exact h3⟩
theorem own_selP {s : State} {args : Array Value} {y : MethodName} {k : Nat} (wi : (Cond.instantiable y.cls k).before args s = true) (wp : (Cond.privateMethod y).before args s = true) (hi : (Cond.instanceMethod y).before args s = true) (hy : y.cls ≠ "java/lang/invoke/MethodHandle" ∧ y.cls ≠ "java/lang/invoke/VarHandle") : (Cond.selects y.cls y y).before args s = true := by
  obtain ⟨c, k, h1, h2, -, h4, -⟩ := Cond.instantiable_spec wi
  exact selects_self_of_private h1 h2 (by simp only [Bool.or_eq_false_iff] at h4; exact h4.1) (Cond.privateMethod_at wp) hi hy
theorem own_xnJ (x : Int64) : (x ^^^ (-1 : Int64)).toInt = -1 - x.toInt := by
  have h : x ^^^ (-1 : Int64) = ~~~ x := by
    rw [← Int64.toBitVec_inj]; simp
  rw [h]
  show (~~~ x.toBitVec).toInt = -1 - x.toBitVec.toInt
  rw [BitVec.toInt_not]
  have h1 := x.toBitVec.isLt
  rw [BitVec.toInt_eq_toNat_bmod]
  simp only [Int.bmod]
  split <;> split <;> omega
theorem own_insLt (F : Ins Z h a C b) : a < h.size := by obtain ⟨_, _, h1, -⟩ := F; exact (Array.getElem?_eq_some_iff.mp h1).1
variable {args : Array Value} {t u : Term} {x : Addr}
theorem own_fldI {k : Int32} (ev : t.eval args Z none [] Z = some (.ref x)) (hh : (Cond.eq (.field t C n d) (.int k)).value args Z none Z [] = some true) : Fld Z Z.heap x C n d (.int k) := by
  refine Fld.start ?_
  obtain ⟨y, w, e1, e2, k1, -⟩ := cmp_v (Or.inl hh)
  cases (Term.int_eval k).symm.trans e2
  rw [fld_at ev] at e1
  cases y <;> simp [Kin, Value.isRef] at k1
  rename_i q
  have e3 : (Term.field t C n d).eval args Z none [] Z = some (.int q) := by rw [fld_at ev]; exact e1
  simp [Cond.value, e3, Term.int_eval] at hh
  rw [e1, hh]
theorem own_fldJ {k : Int64} (ev : t.eval args Z none [] Z = some (.ref x)) (hh : (Cond.eq (.field t C n d) (.long k)).value args Z none Z [] = some true) : Fld Z Z.heap x C n d (.long k) := by
  refine Fld.start ?_
  obtain ⟨y, w, e1, e2, k1, -⟩ := cmp_v (Or.inl hh)
  cases (long_at k).symm.trans e2
  rw [fld_at ev] at e1
  cases y <;> simp [Kin, Value.isRef] at k1
  rename_i q
  have e3 : (Term.field t C n d).eval args Z none [] Z = some (.long q) := by rw [fld_at ev]; exact e1
  have e4 := gotT (eq_L e3 (long_at k)) hh
  rw [e1, e4]
theorem own_fldR {y : Addr} (ev : t.eval args Z none [] Z = some (.ref x)) (e2 : (Term.field t C n d).eval args Z none [] Z = some (.ref y)) : Fld Z Z.heap x C n d (.ref y) := Fld.start (by rw [← fld_at ev]; exact e2)
theorem own_len {cl : Cell} {ty : FieldType} {k : Int32} (ev : t.eval args Z none [] Z = some (.ref x)) (A : Arr Z Z.heap x cl ty) (hh : (Cond.eq (.length t) (.int k)).value args Z none Z [] = some true) : cl.slots.size < 2 ^ 31 ∧ cl.slots.size.toInt32 = k := by
  obtain ⟨y, w, e1, e2, k1, -⟩ := cmp_v (Or.inl hh)
  cases (Term.int_eval k).symm.trans e2
  have hA := A.fin (Vm.Alike.refl _)
  have hl : cl.slots.size < 2 ^ 31 := by
    rcases Nat.lt_or_ge cl.slots.size (2 ^ 31) with q | q
    · exact q
    · simp [Term.eval, ev, hA, Nat.not_lt.mpr q] at e1
  refine ⟨hl, ?_⟩
  have e3 := len_f ev hA hl
  simp [Cond.value, e3, Term.int_eval] at hh
  exact hh
theorem own_elI {cl : Cell} {ty : FieldType} {i k : Int32} (ev : t.eval args Z none [] Z = some (.ref x)) (A : Arr Z Z.heap x cl ty) (hh : (Cond.eq (.elem t (.int i)) (.int k)).value args Z none Z [] = some true) : cl.slots[i.toNatClampNeg]? = some (.int k) := by
  obtain ⟨y, w, e1, e2, k1, -⟩ := cmp_v (Or.inl hh)
  cases (Term.int_eval k).symm.trans e2
  cases y <;> simp [Kin, Value.isRef] at k1
  rename_i q
  simp [Cond.value, e1, Term.int_eval] at hh
  rw [← hh]; exact (elem_in e1 ev (Term.int_eval i) A.1).2
theorem own_elR {cl : Cell} {ty : FieldType} {i : Int32} {y : Addr} (ev : t.eval args Z none [] Z = some (.ref x)) (eu : u.eval args Z none [] Z = some (.ref y)) (A : Arr Z Z.heap x cl ty) (hh : (Cond.eq (.elem t (.int i)) u).value args Z none Z [] = some true) : cl.slots[i.toNatClampNeg]? = some (.ref y) := by
  obtain ⟨p, w, e1, e3, k1, k2⟩ := cmp_v (Or.inl hh)
  cases eu.symm.trans e3
  have k3 := gotT (eq_R e1 eu k2.2 rfl) hh
  rw [← k3]; exact (elem_in e1 ev (Term.int_eval i) A.1).2
theorem own_eqR {y : Addr} (e2 : u.eval args Z none [] Z = some (.ref y)) (hh : (Cond.eq t u).value args Z none Z [] = some true) : t.eval args Z none [] Z = some (.ref y) := by
  obtain ⟨p, w, e1, e3, k1, k2⟩ := cmp_v (Or.inl hh)
  cases e2.symm.trans e3
  have k3 := gotT (eq_R e1 e2 k2.2 rfl) hh
  rw [e1, k3]
end OwnFacts
/-- the cache of Longs: old objects, each with its number -/
def own_LC (Z : State) (h : Heap) (a : Addr) (n : Nat) : Prop := ∃ cl : Cell, Arr Z h a cl (.object "java/lang/Long") ∧ cl.slots.size = (256 : Int32).toNatClampNeg ∧ a < n ∧ ∀ j : Int32, ¬ j < 0 → j < 256 → ∃ b : Addr, cl.slots[j.toNatClampNeg]? = some (.ref b) ∧ b < n ∧ Exa Z h b "java/lang/Long" ∧ Fld Z h b "java/lang/Long" "value" "J" (.long (j - 128).toInt64)
theorem own_LC.keep {Z : State} {h h' : Heap} {a : Addr} {n : Nat} {ws : List Addr} (F : own_LC Z h a n) (K : Keep h h' ws) (q : ∀ x ∈ ws, n ≤ x) : own_LC Z h' a n := by
  obtain ⟨cl, A, S, ha, M⟩ := F
  refine ⟨cl, ⟨K.2.1 a cl A.1 (fun hm => absurd ha (Nat.not_lt.mpr (q a hm))), A.2⟩, S, ha, fun j h0 h1 => ?_⟩
  obtain ⟨b, h2, h3, E, F⟩ := M j h0 h1
  exact ⟨b, h2, h3, E.keep K, F.keep K (fun hm => absurd h3 (Nat.not_lt.mpr (q b hm)))⟩
theorem own_LC.ext {Z : State} {h h' : Heap} {a : Addr} {n : Nat} (F : own_LC Z h a n) (E : Ext h h') : own_LC Z h' a n := F.keep ((Keep.refl h []).ext E) all0
theorem own_lcq {q : Int64} (h1 : ¬ q < (-128 : Int64)) (h2 : ¬ (127 : Int64) < q) : (q.toInt32 + (128 : Int32) - 128).toInt64 = q := by
  have a1 : ¬ q.toInt < -128 := fun e => h1 (Int64.lt_iff_toInt_lt.mpr e)
  have a2 : ¬ 127 < q.toInt := fun e => h2 (Int64.lt_iff_toInt_lt.mpr e)
  refine Int64.toInt_inj.mp ?_
  rw [c_i2l]
  have b1 := c_isub (q.toInt32 + (128 : Int32)) 128; have b2 := c_iadd q.toInt32 128; have b3 := c_l2i q
  have e1 : (128 : Int32).toInt = 128 := by decide
  have r1 := rng32 q.toInt32; have r2 := rng32 (q.toInt32 + (128 : Int32)); have r3 := rng32 (q.toInt32 + (128 : Int32) - 128)
  omega
section OwnLong
open Jvm.Free.XT
variable {x y : Int64}
theorem own_ll_eq_t (h : x = y) : ifCond.holds .eq (lcmpW x y) = true := ll_eq_t h
theorem own_ll_eq_f (h : ¬ x = y) : ifCond.holds .eq (lcmpW x y) = false := ll_eq_f h
theorem own_ll_ne_t (h : ¬ x = y) : ifCond.holds .ne (lcmpW x y) = true := ll_ne_t h
theorem own_ll_ne_f (h : x = y) : ifCond.holds .ne (lcmpW x y) = false := ll_ne_f h
theorem own_ll_lt_t (h : x < y) : ifCond.holds .lt (lcmpW x y) = true := ll_lt_t h
theorem own_ll_lt_f (h : ¬ x < y) : ifCond.holds .lt (lcmpW x y) = false := ll_lt_f h
theorem own_ll_ge_t (h : ¬ x < y) : ifCond.holds .ge (lcmpW x y) = true := ll_ge_t h
theorem own_ll_ge_f (h : x < y) : ifCond.holds .ge (lcmpW x y) = false := ll_ge_f h
theorem own_ll_gt_t (h : y < x) : ifCond.holds .gt (lcmpW x y) = true := ll_gt_t h
theorem own_ll_gt_f (h : ¬ y < x) : ifCond.holds .gt (lcmpW x y) = false := ll_gt_f h
theorem own_ll_le_t (h : ¬ y < x) : ifCond.holds .le (lcmpW x y) = true := ll_le_t h
theorem own_ll_le_f (h : y < x) : ifCond.holds .le (lcmpW x y) = false := ll_le_f h
end OwnLong
section OwnSteps
variable {p : Program} {l : Launch} {e : Env} {R : Room} {s : State} {m : MethodId} {args : Array Value} {below : List Frame} {meth : Method} {c : Code} {T : State} {locs : List Loc} {cells slots : Nat} {bytes : ByteArray} {pc : Nat} {L : Array Slot} {S : List Value} {t : State}

theorem oiload (X : Stand p l e R s m args below meth c T locs cells slots) (hx : p.tables.exec = Jvm.exec) (hby : c.code = bytes) {k : Nat} {v : Int32} (hd : decode bytes pc = .ok (.iload k, 2)) (hl : L[k]? = some (.val (.int v))) (hr : Steps p.tables e below (T.setTop (mkF m (pc + 2) L (.int v :: S))) t) : Steps p.tables e below (T.setTop (mkF m pc L S)) t := XS.iload X.here hx rfl (hb hby hd) hl hr
theorem oiloadN (X : Stand p l e R s m args below meth c T locs cells slots) (hx : p.tables.exec = Jvm.exec) (hby : c.code = bytes) {k : Fin 4} {v : Int32} (hd : decode bytes pc = .ok (.iload_n k, 1)) (hl : L[k.val]? = some (.val (.int v))) (hr : Steps p.tables e below (T.setTop (mkF m (pc + 1) L (.int v :: S))) t) : Steps p.tables e below (T.setTop (mkF m pc L S)) t := XS.iloadN X.here hx rfl (hb hby hd) hl hr
theorem olload (X : Stand p l e R s m args below meth c T locs cells slots) (hx : p.tables.exec = Jvm.exec) (hby : c.code = bytes) {k : Nat} {v : Int64} (hd : decode bytes pc = .ok (.lload k, 2)) (hl : L[k]? = some (.val (.long v))) (hr : Steps p.tables e below (T.setTop (mkF m (pc + 2) L (.long v :: S))) t) : Steps p.tables e below (T.setTop (mkF m pc L S)) t := XS.lload X.here hx rfl (hb hby hd) hl hr
theorem olloadN (X : Stand p l e R s m args below meth c T locs cells slots) (hx : p.tables.exec = Jvm.exec) (hby : c.code = bytes) {k : Fin 4} {v : Int64} (hd : decode bytes pc = .ok (.lload_n k, 1)) (hl : L[k.val]? = some (.val (.long v))) (hr : Steps p.tables e below (T.setTop (mkF m (pc + 1) L (.long v :: S))) t) : Steps p.tables e below (T.setTop (mkF m pc L S)) t := XS.lloadN X.here hx rfl (hb hby hd) hl hr
theorem oaload (X : Stand p l e R s m args below meth c T locs cells slots) (hx : p.tables.exec = Jvm.exec) (hby : c.code = bytes) {k : Nat} {v : Value} (hd : decode bytes pc = .ok (.aload k, 2)) (hl : L[k]? = some (.val v)) (hv : v.isRef = true) (hr : Steps p.tables e below (T.setTop (mkF m (pc + 2) L (v :: S))) t) : Steps p.tables e below (T.setTop (mkF m pc L S)) t := XS.aload X.here hx rfl (hb hby hd) hl hv hr
theorem oaloadN (X : Stand p l e R s m args below meth c T locs cells slots) (hx : p.tables.exec = Jvm.exec) (hby : c.code = bytes) {k : Fin 4} {v : Value} (hd : decode bytes pc = .ok (.aload_n k, 1)) (hl : L[k.val]? = some (.val v)) (hv : v.isRef = true) (hr : Steps p.tables e below (T.setTop (mkF m (pc + 1) L (v :: S))) t) : Steps p.tables e below (T.setTop (mkF m pc L S)) t := XS.aloadN X.here hx rfl (hb hby hd) hl hv hr
theorem oistore (X : Stand p l e R s m args below meth c T locs cells slots) (hx : p.tables.exec = Jvm.exec) (hby : c.code = bytes) {k : Nat} {x : Int32} (hd : decode bytes pc = .ok (.istore k, 2)) (l' : Array Slot) (hl : storeLocals L k (.int x) = some l') (hr : Steps p.tables e below (T.setTop (mkF m (pc + 2) l' S)) t) : Steps p.tables e below (T.setTop (mkF m pc L (.int x :: S))) t := XS.istore X.here hx rfl (hb hby hd) rfl hl hr
theorem oistoreN (X : Stand p l e R s m args below meth c T locs cells slots) (hx : p.tables.exec = Jvm.exec) (hby : c.code = bytes) {k : Fin 4} {x : Int32} (hd : decode bytes pc = .ok (.istore_n k, 1)) (l' : Array Slot) (hl : storeLocals L k.val (.int x) = some l') (hr : Steps p.tables e below (T.setTop (mkF m (pc + 1) l' S)) t) : Steps p.tables e below (T.setTop (mkF m pc L (.int x :: S))) t := XS.istoreN X.here hx rfl (hb hby hd) rfl hl hr
theorem olstore (X : Stand p l e R s m args below meth c T locs cells slots) (hx : p.tables.exec = Jvm.exec) (hby : c.code = bytes) {k : Nat} {x : Int64} (hd : decode bytes pc = .ok (.lstore k, 2)) (l' : Array Slot) (hl : storeLocals L k (.long x) = some l') (hr : Steps p.tables e below (T.setTop (mkF m (pc + 2) l' S)) t) : Steps p.tables e below (T.setTop (mkF m pc L (.long x :: S))) t := XS.lstore X.here hx rfl (hb hby hd) rfl hl hr
theorem olstoreN (X : Stand p l e R s m args below meth c T locs cells slots) (hx : p.tables.exec = Jvm.exec) (hby : c.code = bytes) {k : Fin 4} {x : Int64} (hd : decode bytes pc = .ok (.lstore_n k, 1)) (l' : Array Slot) (hl : storeLocals L k.val (.long x) = some l') (hr : Steps p.tables e below (T.setTop (mkF m (pc + 1) l' S)) t) : Steps p.tables e below (T.setTop (mkF m pc L (.long x :: S))) t := XS.lstoreN X.here hx rfl (hb hby hd) rfl hl hr
theorem oastore (X : Stand p l e R s m args below meth c T locs cells slots) (hx : p.tables.exec = Jvm.exec) (hby : c.code = bytes) {k : Nat} {x : Value} (hd : decode bytes pc = .ok (.astore k, 2)) (l' : Array Slot) (hv : x.isRef = true) (hl : storeLocals L k x = some l') (hr : Steps p.tables e below (T.setTop (mkF m (pc + 2) l' S)) t) : Steps p.tables e below (T.setTop (mkF m pc L (x :: S))) t := XS.astore X.here hx rfl (hb hby hd) rfl hv hl hr
theorem oastoreN (X : Stand p l e R s m args below meth c T locs cells slots) (hx : p.tables.exec = Jvm.exec) (hby : c.code = bytes) {k : Fin 4} {x : Value} (hd : decode bytes pc = .ok (.astore_n k, 1)) (l' : Array Slot) (hv : x.isRef = true) (hl : storeLocals L k.val x = some l') (hr : Steps p.tables e below (T.setTop (mkF m (pc + 1) l' S)) t) : Steps p.tables e below (T.setTop (mkF m pc L (x :: S))) t := XS.astoreN X.here hx rfl (hb hby hd) rfl hv hl hr
theorem oiconst (X : Stand p l e R s m args below meth c T locs cells slots) (hx : p.tables.exec = Jvm.exec) (hby : c.code = bytes) {i : Int} (hd : decode bytes pc = .ok (.iconst i, 1)) (hr : Steps p.tables e below (T.setTop (mkF m (pc + 1) L (.int (Int32.ofInt i) :: S))) t) : Steps p.tables e below (T.setTop (mkF m pc L S)) t := XS.iconst X.here hx rfl (hb hby hd) hr
theorem obipush (X : Stand p l e R s m args below meth c T locs cells slots) (hx : p.tables.exec = Jvm.exec) (hby : c.code = bytes) {i : Int} (hd : decode bytes pc = .ok (.bipush i, 2)) (hr : Steps p.tables e below (T.setTop (mkF m (pc + 2) L (.int (Int8.ofInt i).toInt32 :: S))) t) : Steps p.tables e below (T.setTop (mkF m pc L S)) t := XS.bipush X.here hx rfl (hb hby hd) hr
theorem osipush (X : Stand p l e R s m args below meth c T locs cells slots) (hx : p.tables.exec = Jvm.exec) (hby : c.code = bytes) {i : Int} (hd : decode bytes pc = .ok (.sipush i, 3)) (hr : Steps p.tables e below (T.setTop (mkF m (pc + 3) L (.int (Int16.ofInt i).toInt32 :: S))) t) : Steps p.tables e below (T.setTop (mkF m pc L S)) t := XS.sipush X.here hx rfl (hb hby hd) hr
theorem olconst (X : Stand p l e R s m args below meth c T locs cells slots) (hx : p.tables.exec = Jvm.exec) (hby : c.code = bytes) {k : Fin 2} (hd : decode bytes pc = .ok (.lconst k, 1)) (hr : Steps p.tables e below (T.setTop (mkF m (pc + 1) L (.long (Int64.ofNat k) :: S))) t) : Steps p.tables e below (T.setTop (mkF m pc L S)) t := XS.lconst X.here hx rfl (hb hby hd) hr
theorem onull (X : Stand p l e R s m args below meth c T locs cells slots) (hx : p.tables.exec = Jvm.exec) (hby : c.code = bytes) (hd : decode bytes pc = .ok (.aconst_null, 1)) (hr : Steps p.tables e below (T.setTop (mkF m (pc + 1) L (.null :: S))) t) : Steps p.tables e below (T.setTop (mkF m pc L S)) t := XS.aconstNull X.here hx rfl (hb hby hd) hr
theorem oiadd (X : Stand p l e R s m args below meth c T locs cells slots) (hx : p.tables.exec = Jvm.exec) (hby : c.code = bytes) {x y : Int32} (hd : decode bytes pc = .ok (.iadd, 1)) (hr : Steps p.tables e below (T.setTop (mkF m (pc + 1) L (.int (x + y) :: S))) t) : Steps p.tables e below (T.setTop (mkF m pc L (.int y :: .int x :: S))) t := XS.iadd X.here hx rfl (hb hby hd) rfl hr
theorem oladd (X : Stand p l e R s m args below meth c T locs cells slots) (hx : p.tables.exec = Jvm.exec) (hby : c.code = bytes) {x y : Int64} (hd : decode bytes pc = .ok (.ladd, 1)) (hr : Steps p.tables e below (T.setTop (mkF m (pc + 1) L (.long (x + y) :: S))) t) : Steps p.tables e below (T.setTop (mkF m pc L (.long y :: .long x :: S))) t := XS.ladd X.here hx rfl (hb hby hd) rfl hr
theorem oisub (X : Stand p l e R s m args below meth c T locs cells slots) (hx : p.tables.exec = Jvm.exec) (hby : c.code = bytes) {x y : Int32} (hd : decode bytes pc = .ok (.isub, 1)) (hr : Steps p.tables e below (T.setTop (mkF m (pc + 1) L (.int (x - y) :: S))) t) : Steps p.tables e below (T.setTop (mkF m pc L (.int y :: .int x :: S))) t := XS.isub X.here hx rfl (hb hby hd) rfl hr
theorem olsub (X : Stand p l e R s m args below meth c T locs cells slots) (hx : p.tables.exec = Jvm.exec) (hby : c.code = bytes) {x y : Int64} (hd : decode bytes pc = .ok (.lsub, 1)) (hr : Steps p.tables e below (T.setTop (mkF m (pc + 1) L (.long (x - y) :: S))) t) : Steps p.tables e below (T.setTop (mkF m pc L (.long y :: .long x :: S))) t := XS.lsub X.here hx rfl (hb hby hd) rfl hr
theorem oimul (X : Stand p l e R s m args below meth c T locs cells slots) (hx : p.tables.exec = Jvm.exec) (hby : c.code = bytes) {x y : Int32} (hd : decode bytes pc = .ok (.imul, 1)) (hr : Steps p.tables e below (T.setTop (mkF m (pc + 1) L (.int (x * y) :: S))) t) : Steps p.tables e below (T.setTop (mkF m pc L (.int y :: .int x :: S))) t := XS.imul X.here hx rfl (hb hby hd) rfl hr
theorem olmul (X : Stand p l e R s m args below meth c T locs cells slots) (hx : p.tables.exec = Jvm.exec) (hby : c.code = bytes) {x y : Int64} (hd : decode bytes pc = .ok (.lmul, 1)) (hr : Steps p.tables e below (T.setTop (mkF m (pc + 1) L (.long (x * y) :: S))) t) : Steps p.tables e below (T.setTop (mkF m pc L (.long y :: .long x :: S))) t := XS.lmul X.here hx rfl (hb hby hd) rfl hr
theorem oiand (X : Stand p l e R s m args below meth c T locs cells slots) (hx : p.tables.exec = Jvm.exec) (hby : c.code = bytes) {x y : Int32} (hd : decode bytes pc = .ok (.iand, 1)) (hr : Steps p.tables e below (T.setTop (mkF m (pc + 1) L (.int (x &&& y) :: S))) t) : Steps p.tables e below (T.setTop (mkF m pc L (.int y :: .int x :: S))) t := XS.iand X.here hx rfl (hb hby hd) rfl hr
theorem oland (X : Stand p l e R s m args below meth c T locs cells slots) (hx : p.tables.exec = Jvm.exec) (hby : c.code = bytes) {x y : Int64} (hd : decode bytes pc = .ok (.land, 1)) (hr : Steps p.tables e below (T.setTop (mkF m (pc + 1) L (.long (x &&& y) :: S))) t) : Steps p.tables e below (T.setTop (mkF m pc L (.long y :: .long x :: S))) t := XS.land X.here hx rfl (hb hby hd) rfl hr
theorem oior (X : Stand p l e R s m args below meth c T locs cells slots) (hx : p.tables.exec = Jvm.exec) (hby : c.code = bytes) {x y : Int32} (hd : decode bytes pc = .ok (.ior, 1)) (hr : Steps p.tables e below (T.setTop (mkF m (pc + 1) L (.int (x ||| y) :: S))) t) : Steps p.tables e below (T.setTop (mkF m pc L (.int y :: .int x :: S))) t := XS.ior X.here hx rfl (hb hby hd) rfl hr
theorem olor (X : Stand p l e R s m args below meth c T locs cells slots) (hx : p.tables.exec = Jvm.exec) (hby : c.code = bytes) {x y : Int64} (hd : decode bytes pc = .ok (.lor, 1)) (hr : Steps p.tables e below (T.setTop (mkF m (pc + 1) L (.long (x ||| y) :: S))) t) : Steps p.tables e below (T.setTop (mkF m pc L (.long y :: .long x :: S))) t := XS.lor X.here hx rfl (hb hby hd) rfl hr
theorem oixor (X : Stand p l e R s m args below meth c T locs cells slots) (hx : p.tables.exec = Jvm.exec) (hby : c.code = bytes) {x y : Int32} (hd : decode bytes pc = .ok (.ixor, 1)) (hr : Steps p.tables e below (T.setTop (mkF m (pc + 1) L (.int (x ^^^ y) :: S))) t) : Steps p.tables e below (T.setTop (mkF m pc L (.int y :: .int x :: S))) t := XS.ixor X.here hx rfl (hb hby hd) rfl hr
theorem olxor (X : Stand p l e R s m args below meth c T locs cells slots) (hx : p.tables.exec = Jvm.exec) (hby : c.code = bytes) {x y : Int64} (hd : decode bytes pc = .ok (.lxor, 1)) (hr : Steps p.tables e below (T.setTop (mkF m (pc + 1) L (.long (x ^^^ y) :: S))) t) : Steps p.tables e below (T.setTop (mkF m pc L (.long y :: .long x :: S))) t := XS.lxor X.here hx rfl (hb hby hd) rfl hr
theorem oishl (X : Stand p l e R s m args below meth c T locs cells slots) (hx : p.tables.exec = Jvm.exec) (hby : c.code = bytes) {x y : Int32} (hd : decode bytes pc = .ok (.ishl, 1)) (hr : Steps p.tables e below (T.setTop (mkF m (pc + 1) L (.int (x <<< (y &&& 31)) :: S))) t) : Steps p.tables e below (T.setTop (mkF m pc L (.int y :: .int x :: S))) t := XS.ishl X.here hx rfl (hb hby hd) rfl hr
theorem oishr (X : Stand p l e R s m args below meth c T locs cells slots) (hx : p.tables.exec = Jvm.exec) (hby : c.code = bytes) {x y : Int32} (hd : decode bytes pc = .ok (.ishr, 1)) (hr : Steps p.tables e below (T.setTop (mkF m (pc + 1) L (.int (x >>> (y &&& 31)) :: S))) t) : Steps p.tables e below (T.setTop (mkF m pc L (.int y :: .int x :: S))) t := XS.ishr X.here hx rfl (hb hby hd) rfl hr
theorem oiushr (X : Stand p l e R s m args below meth c T locs cells slots) (hx : p.tables.exec = Jvm.exec) (hby : c.code = bytes) {x y : Int32} (hd : decode bytes pc = .ok (.iushr, 1)) (hr : Steps p.tables e below (T.setTop (mkF m (pc + 1) L (.int ((x.toUInt32 >>> (y &&& 31).toUInt32).toInt32) :: S))) t) : Steps p.tables e below (T.setTop (mkF m pc L (.int y :: .int x :: S))) t := XS.iushr X.here hx rfl (hb hby hd) rfl hr
theorem olshl (X : Stand p l e R s m args below meth c T locs cells slots) (hx : p.tables.exec = Jvm.exec) (hby : c.code = bytes) {x : Int64} {y : Int32} (hd : decode bytes pc = .ok (.lshl, 1)) (hr : Steps p.tables e below (T.setTop (mkF m (pc + 1) L (.long (x <<< (y &&& 0x3f).toInt64) :: S))) t) : Steps p.tables e below (T.setTop (mkF m pc L (.int y :: .long x :: S))) t := XS.lshl X.here hx rfl (hb hby hd) rfl hr
theorem olshr (X : Stand p l e R s m args below meth c T locs cells slots) (hx : p.tables.exec = Jvm.exec) (hby : c.code = bytes) {x : Int64} {y : Int32} (hd : decode bytes pc = .ok (.lshr, 1)) (hr : Steps p.tables e below (T.setTop (mkF m (pc + 1) L (.long (x >>> (y &&& 0x3f).toInt64) :: S))) t) : Steps p.tables e below (T.setTop (mkF m pc L (.int y :: .long x :: S))) t := XS.lshr X.here hx rfl (hb hby hd) rfl hr
theorem olushr (X : Stand p l e R s m args below meth c T locs cells slots) (hx : p.tables.exec = Jvm.exec) (hby : c.code = bytes) {x : Int64} {y : Int32} (hd : decode bytes pc = .ok (.lushr, 1)) (hr : Steps p.tables e below (T.setTop (mkF m (pc + 1) L (.long ((x.toUInt64 >>> (y &&& 0x3f).toInt64.toUInt64).toInt64) :: S))) t) : Steps p.tables e below (T.setTop (mkF m pc L (.int y :: .long x :: S))) t := XS.lushr X.here hx rfl (hb hby hd) rfl hr
theorem oineg (X : Stand p l e R s m args below meth c T locs cells slots) (hx : p.tables.exec = Jvm.exec) (hby : c.code = bytes) {x : Int32} (hd : decode bytes pc = .ok (.ineg, 1)) (hr : Steps p.tables e below (T.setTop (mkF m (pc + 1) L ((.int (-x)) :: S))) t) : Steps p.tables e below (T.setTop (mkF m pc L (.int x :: S))) t := XS.ineg X.here hx rfl (hb hby hd) rfl hr
theorem olneg (X : Stand p l e R s m args below meth c T locs cells slots) (hx : p.tables.exec = Jvm.exec) (hby : c.code = bytes) {x : Int64} (hd : decode bytes pc = .ok (.lneg, 1)) (hr : Steps p.tables e below (T.setTop (mkF m (pc + 1) L ((.long (-x)) :: S))) t) : Steps p.tables e below (T.setTop (mkF m pc L (.long x :: S))) t := XS.lneg X.here hx rfl (hb hby hd) rfl hr
theorem oi2l (X : Stand p l e R s m args below meth c T locs cells slots) (hx : p.tables.exec = Jvm.exec) (hby : c.code = bytes) {x : Int32} (hd : decode bytes pc = .ok (.i2l, 1)) (hr : Steps p.tables e below (T.setTop (mkF m (pc + 1) L ((.long (x.toInt64)) :: S))) t) : Steps p.tables e below (T.setTop (mkF m pc L (.int x :: S))) t := XS.i2l X.here hx rfl (hb hby hd) rfl hr
theorem ol2i (X : Stand p l e R s m args below meth c T locs cells slots) (hx : p.tables.exec = Jvm.exec) (hby : c.code = bytes) {x : Int64} (hd : decode bytes pc = .ok (.l2i, 1)) (hr : Steps p.tables e below (T.setTop (mkF m (pc + 1) L ((.int (x.toInt32)) :: S))) t) : Steps p.tables e below (T.setTop (mkF m pc L (.long x :: S))) t := XS.l2i X.here hx rfl (hb hby hd) rfl hr
theorem oi2b (X : Stand p l e R s m args below meth c T locs cells slots) (hx : p.tables.exec = Jvm.exec) (hby : c.code = bytes) {x : Int32} (hd : decode bytes pc = .ok (.i2b, 1)) (hr : Steps p.tables e below (T.setTop (mkF m (pc + 1) L ((.int (x.toInt8.toInt32)) :: S))) t) : Steps p.tables e below (T.setTop (mkF m pc L (.int x :: S))) t := XS.i2b X.here hx rfl (hb hby hd) rfl hr
theorem oi2s (X : Stand p l e R s m args below meth c T locs cells slots) (hx : p.tables.exec = Jvm.exec) (hby : c.code = bytes) {x : Int32} (hd : decode bytes pc = .ok (.i2s, 1)) (hr : Steps p.tables e below (T.setTop (mkF m (pc + 1) L ((.int (x.toInt16.toInt32)) :: S))) t) : Steps p.tables e below (T.setTop (mkF m pc L (.int x :: S))) t := XS.i2s X.here hx rfl (hb hby hd) rfl hr
theorem oi2c (X : Stand p l e R s m args below meth c T locs cells slots) (hx : p.tables.exec = Jvm.exec) (hby : c.code = bytes) {x : Int32} (hd : decode bytes pc = .ok (.i2c, 1)) (hr : Steps p.tables e below (T.setTop (mkF m (pc + 1) L ((.int (x.toUInt32.toUInt16.toUInt32.toInt32)) :: S))) t) : Steps p.tables e below (T.setTop (mkF m pc L (.int x :: S))) t := XS.i2c X.here hx rfl (hb hby hd) rfl hr
theorem oirem (X : Stand p l e R s m args below meth c T locs cells slots) (hx : p.tables.exec = Jvm.exec) (hby : c.code = bytes) {x y : Int32} (hd : decode bytes pc = .ok (.irem, 1)) (hy : y ≠ 0) (hr : Steps p.tables e below (T.setTop (mkF m (pc + 1) L (.int (x % y) :: S))) t) : Steps p.tables e below (T.setTop (mkF m pc L (.int y :: .int x :: S))) t := iremM X hx rfl (hb hby hd) rfl hy hr
theorem oidiv (X : Stand p l e R s m args below meth c T locs cells slots) (hx : p.tables.exec = Jvm.exec) (hby : c.code = bytes) {x y : Int32} (hd : decode bytes pc = .ok (.idiv, 1)) (hy : y ≠ 0) (hr : Steps p.tables e below (T.setTop (mkF m (pc + 1) L (.int (x / y) :: S))) t) : Steps p.tables e below (T.setTop (mkF m pc L (.int y :: .int x :: S))) t := XS.idiv X.here hx rfl (hb hby hd) rfl hy hr
theorem oldiv (X : Stand p l e R s m args below meth c T locs cells slots) (hx : p.tables.exec = Jvm.exec) (hby : c.code = bytes) {x y : Int64} (hd : decode bytes pc = .ok (.ldiv, 1)) (hy : y ≠ 0) (hr : Steps p.tables e below (T.setTop (mkF m (pc + 1) L (.long (x / y) :: S))) t) : Steps p.tables e below (T.setTop (mkF m pc L (.long y :: .long x :: S))) t := XS.ldiv X.here hx rfl (hb hby hd) rfl hy hr
theorem olrem (X : Stand p l e R s m args below meth c T locs cells slots) (hx : p.tables.exec = Jvm.exec) (hby : c.code = bytes) {x y : Int64} (hd : decode bytes pc = .ok (.lrem, 1)) (hy : y ≠ 0) (hr : Steps p.tables e below (T.setTop (mkF m (pc + 1) L (.long (x - (x / y) * y) :: S))) t) : Steps p.tables e below (T.setTop (mkF m pc L (.long y :: .long x :: S))) t := XS.lrem X.here hx rfl (hb hby hd) rfl hy hr
theorem olcmp (X : Stand p l e R s m args below meth c T locs cells slots) (hx : p.tables.exec = Jvm.exec) (hby : c.code = bytes) {x y : Int64} (hd : decode bytes pc = .ok (.lcmp, 1)) (hr : Steps p.tables e below (T.setTop (mkF m (pc + 1) L (.int (lcmpW x y) :: S))) t) : Steps p.tables e below (T.setTop (mkF m pc L (.long y :: .long x :: S))) t := XS.lcmp X.here hx rfl (hb hby hd) rfl hr
theorem oiinc (X : Stand p l e R s m args below meth c T locs cells slots) (hx : p.tables.exec = Jvm.exec) (hby : c.code = bytes) {k : Nat} {z : Int} {x : Int32} (hd : decode bytes pc = .ok (.iinc k z, 3)) (l' : Array Slot) (hl : L[k]? = some (.val (.int x))) (hl' : storeLocals L k (.int (x + Int32.ofInt z)) = some l') (hr : Steps p.tables e below (T.setTop (mkF m (pc + 3) l' S)) t) : Steps p.tables e below (T.setTop (mkF m pc L S)) t := XS.iinc X.here hx rfl (hb hby hd) hl hl' hr
theorem odup (X : Stand p l e R s m args below meth c T locs cells slots) (hx : p.tables.exec = Jvm.exec) (hby : c.code = bytes) {x : Value} (hd : decode bytes pc = .ok (.dup, 1)) (hc : x.category = 1) (hr : Steps p.tables e below (T.setTop (mkF m (pc + 1) L (x :: x :: S))) t) : Steps p.tables e below (T.setTop (mkF m pc L (x :: S))) t := XS.dup X.here hx rfl (hb hby hd) rfl hc hr
theorem opop (X : Stand p l e R s m args below meth c T locs cells slots) (hx : p.tables.exec = Jvm.exec) (hby : c.code = bytes) {x : Value} (hd : decode bytes pc = .ok (.pop, 1)) (hc : x.category = 1) (hr : Steps p.tables e below (T.setTop (mkF m (pc + 1) L S)) t) : Steps p.tables e below (T.setTop (mkF m pc L (x :: S))) t := XS.pop X.here hx rfl (hb hby hd) rfl hc hr
theorem odupx1 (X : Stand p l e R s m args below meth c T locs cells slots) (hx : p.tables.exec = Jvm.exec) (hby : c.code = bytes) {x y : Value} (hd : decode bytes pc = .ok (.dup_x1, 1)) (hc : x.category = 1) (hc' : y.category = 1) (hr : Steps p.tables e below (T.setTop (mkF m (pc + 1) L (x :: y :: x :: S))) t) : Steps p.tables e below (T.setTop (mkF m pc L (x :: y :: S))) t := XS.dupX1 X.here hx rfl (hb hby hd) rfl hc hc' hr
theorem odup2 (X : Stand p l e R s m args below meth c T locs cells slots) (hx : p.tables.exec = Jvm.exec) (hby : c.code = bytes) {x y : Value} (hd : decode bytes pc = .ok (.dup2, 1)) (hc : x.category = 1) (hc' : y.category = 1) (hr : Steps p.tables e below (T.setTop (mkF m (pc + 1) L (x :: y :: x :: y :: S))) t) : Steps p.tables e below (T.setTop (mkF m pc L (x :: y :: S))) t := Jvm.Free.XT.dup2 X.here hx rfl (hb hby hd) rfl hc hc' hr
theorem ogoto (X : Stand p l e R s m args below meth c T locs cells slots) (hx : p.tables.exec = Jvm.exec) (hby : c.code = bytes) {o : Int} (hd : decode bytes pc = .ok (.goto o, 3)) (pc' : Nat) (hp : 0 ≤ (pc : Int) + o ∧ ((pc : Int) + o).toNat = pc') (hr : Steps p.tables e below (T.setTop (mkF m pc' L S)) t) : Steps p.tables e below (T.setTop (mkF m pc L S)) t := XS.goto X.here hx rfl rfl (hb hby hd) hp.1 hp.2 hr
theorem oifY (X : Stand p l e R s m args below meth c T locs cells slots) (hx : p.tables.exec = Jvm.exec) (hby : c.code = bytes) {cd : ClassFile.Cond} {x : Int32} {o : Int} (hd : decode bytes pc = .ok (.ifCond cd o, 3)) (pc' : Nat) (hc : ifCond.holds cd x = true) (hp : 0 ≤ (pc : Int) + o ∧ ((pc : Int) + o).toNat = pc') (hr : Steps p.tables e below (T.setTop (mkF m pc' L S)) t) : Steps p.tables e below (T.setTop (mkF m pc L (.int x :: S))) t := XS.ifYes X.here hx rfl rfl (hb hby hd) rfl hc hp.1 hp.2 hr
theorem oifN (X : Stand p l e R s m args below meth c T locs cells slots) (hx : p.tables.exec = Jvm.exec) (hby : c.code = bytes) {cd : ClassFile.Cond} {x : Int32} {o : Int} (hd : decode bytes pc = .ok (.ifCond cd o, 3)) (hc : ifCond.holds cd x = false) (hr : Steps p.tables e below (T.setTop (mkF m (pc + 3) L S)) t) : Steps p.tables e below (T.setTop (mkF m pc L (.int x :: S))) t := XS.ifNo X.here hx rfl (hb hby hd) rfl hc hr
theorem oicY (X : Stand p l e R s m args below meth c T locs cells slots) (hx : p.tables.exec = Jvm.exec) (hby : c.code = bytes) {cd : ClassFile.Cond} {x y : Int32} {o : Int} (hd : decode bytes pc = .ok (.if_icmp cd o, 3)) (pc' : Nat) (hc : if_icmp.holds cd x y = true) (hp : 0 ≤ (pc : Int) + o ∧ ((pc : Int) + o).toNat = pc') (hr : Steps p.tables e below (T.setTop (mkF m pc' L S)) t) : Steps p.tables e below (T.setTop (mkF m pc L (.int y :: .int x :: S))) t := XS.icmpYes X.here hx rfl rfl (hb hby hd) rfl hc hp.1 hp.2 hr
theorem oicN (X : Stand p l e R s m args below meth c T locs cells slots) (hx : p.tables.exec = Jvm.exec) (hby : c.code = bytes) {cd : ClassFile.Cond} {x y : Int32} {o : Int} (hd : decode bytes pc = .ok (.if_icmp cd o, 3)) (hc : if_icmp.holds cd x y = false) (hr : Steps p.tables e below (T.setTop (mkF m (pc + 3) L S)) t) : Steps p.tables e below (T.setTop (mkF m pc L (.int y :: .int x :: S))) t := XS.icmpNo X.here hx rfl (hb hby hd) rfl hc hr
theorem oacmp (X : Stand p l e R s m args below meth c T locs cells slots) (hx : p.tables.exec = Jvm.exec) (hby : c.code = bytes) {cd : ACond} {x y : Value} {o : Int} (hd : decode bytes pc = .ok (.if_acmp cd o, 3)) (pc' : Nat) {same : Bool} (h1 : x.isRef = true) (h2 : y.isRef = true) (hq : decide (x = y) = same) (hp : 0 ≤ (pc : Int) + o ∧ pc' = if acV cd same = true then ((pc : Int) + o).toNat else pc + 3) (hr : Steps p.tables e below (T.setTop (mkF m pc' L S)) t) : Steps p.tables e below (T.setTop (mkF m pc L (y :: x :: S))) t := Jvm.RoadKit.acmp X hx rfl h1 h2 rfl (hb hby hd) rfl hq hp.1 hp.2 hr
theorem onlY (X : Stand p l e R s m args below meth c T locs cells slots) (hx : p.tables.exec = Jvm.exec) (hby : c.code = bytes) {o : Int} (hd : decode bytes pc = .ok (.ifnull o, 3)) (pc' : Nat) (hp : 0 ≤ (pc : Int) + o ∧ ((pc : Int) + o).toNat = pc') (hr : Steps p.tables e below (T.setTop (mkF m pc' L S)) t) : Steps p.tables e below (T.setTop (mkF m pc L (.null :: S))) t := XS.ifnullYes X.here hx rfl rfl (hb hby hd) rfl hp.1 hp.2 hr
theorem onlN (X : Stand p l e R s m args below meth c T locs cells slots) (hx : p.tables.exec = Jvm.exec) (hby : c.code = bytes) {o : Int} {a : Addr} (hd : decode bytes pc = .ok (.ifnull o, 3)) (hr : Steps p.tables e below (T.setTop (mkF m (pc + 3) L S)) t) : Steps p.tables e below (T.setTop (mkF m pc L (.ref a :: S))) t := XS.ifnullNo X.here hx rfl (hb hby hd) rfl hr
theorem onnY (X : Stand p l e R s m args below meth c T locs cells slots) (hx : p.tables.exec = Jvm.exec) (hby : c.code = bytes) {o : Int} {a : Addr} (hd : decode bytes pc = .ok (.ifnonnull o, 3)) (pc' : Nat) (hp : 0 ≤ (pc : Int) + o ∧ ((pc : Int) + o).toNat = pc') (hr : Steps p.tables e below (T.setTop (mkF m pc' L S)) t) : Steps p.tables e below (T.setTop (mkF m pc L (.ref a :: S))) t := XS.ifnonnullYes X.here hx rfl rfl (hb hby hd) rfl hp.1 hp.2 hr
theorem onnN (X : Stand p l e R s m args below meth c T locs cells slots) (hx : p.tables.exec = Jvm.exec) (hby : c.code = bytes) {o : Int} (hd : decode bytes pc = .ok (.ifnonnull o, 3)) (hr : Steps p.tables e below (T.setTop (mkF m (pc + 3) L S)) t) : Steps p.tables e below (T.setTop (mkF m pc L (.null :: S))) t := XS.ifnonnullNo X.here hx rfl (hb hby hd) rfl hr
end OwnSteps
section OwnCalls
variable {p : Program} {l : Launch} {e : Env} {R : Room} {s : State} {m : MethodId} {args : Array Value} {below : List Frame} {meth : Method} {c : Code} {T : State} {locs : List Loc} {cells slots : Nat} {Z : State} {a0 : Array Value} {h : Heap} {bytes : ByteArray}
theorem ocallS (X : Stand p l e R s m args below meth c T locs cells slots) (hx : p.tables.exec = Jvm.exec) (hZ : Z.Warmed39 s.vm) {cb : ByteArray} {maxL : Nat} {ret : Option FieldType} {rm : Room} {Q : Option Value → Heap → List Loc → Prop} {argsL rest : List Value} {index : Nat} {own : String} (y : MethodName) (hown : s.vm.findClass own = some m.cls) (w1 : (Cond.methodLink own index y).before a0 Z = true) (w2 : (Cond.static y).before a0 Z = true) (hy : y.cls ≠ "java/lang/invoke/MethodHandle" ∧ y.cls ≠ "java/lang/invoke/VarHandle") (w5 : (Cond.code y cb maxL ret).before a0 Z = true) (w6 : (Cond.initialized y.cls).before a0 Z = true) (eT : T.heap = h) (hM : MetFree l y (head1 [Cond.code y cb maxL ret] rm) (fun a U => a = argsL.toArray ∧ Z.Warmed39 U.vm ∧ U.heap = h) (fun _ _ _ _ _ => True) (fun _ U o U' => ∃ v L, o = .returned v ∧ Q v U'.heap L ∧ FrameEnd U o U' L rm.cells rm.slots)) {st : List Value} (hst : st = argsL.reverse ++ rest) (W : Nat) (hW : (rest.map fun v => v.category).sum = W) (hroom : rm.frames + 1 ≤ R.frames ∧ W + (maxL + 11) + rm.locals ≤ R.locals ∧ cells + rm.cells ≤ R.cells ∧ slots + rm.slots ≤ R.slots) {pc : Nat} {Ls : Array Slot} {nl : Nat} (hml : c.maxLocals = nl) (hsz : Ls.size = nl) (hlen : ∀ sig, parseMethodDescriptor y.desc = some sig → argsL.length = sig.parameters.length) (hd : decode bytes pc = .ok (.invokestatic index, 3)) (hby : c.code = bytes) : ∃ v T' L, Stand p l e R s m args below meth c T' (locs ++ L) (cells + rm.cells) (slots + rm.slots) ∧ Q v T'.heap L ∧ ∀ t, Steps p.tables e below (T'.setTop (mkF m (pc + 3) Ls (v.toList ++ rest))) t → Steps p.tables e below (T.setTop (mkF m pc Ls st)) t := by
  subst hst
  obtain ⟨_, _, ⟨T1, L1, k1, n1⟩, -, X1, ⟨Lc1, hQ1, l1, y1, z1⟩, st1⟩ := Jvm.LawKit.callS X hx hown (mvT hZ w1) (mvT hZ w2) (mvT hZ w6) (mvT hZ w5) hy (backOf (W := W) hM hZ w5 w6 hroom.1 hroom.2.1) (g := mkF m pc Ls (argsL.reverse ++ rest)) rfl (hsz.trans hml.symm) (argsL := argsL) (rest := rest) hlen rfl (by show 2 * 0 + _ ≤ _; rw [Nat.mul_zero, Nat.zero_add]; exact Nat.le_of_eq hW) (hb hby hd) (fun _ _ => ⟨rfl, eT, hroom.2.2.1, hroom.2.2.2⟩)
  dsimp only [Pt.U, Pt.locs, Pt.cells, Pt.slots] at X1 l1 y1 z1 st1 hQ1
  subst l1 y1 z1
  exact ⟨_, _, _, X1, hQ1, st1⟩
theorem ocallI (X : Stand p l e R s m args below meth c T locs cells slots) (hx : p.tables.exec = Jvm.exec) (hZ : Z.Warmed39 s.vm) {cb : ByteArray} {maxL : Nat} {rm : Room} {Q : Option Value → Heap → List Loc → Prop} {argsL rest : List Value} {index : Nat} {own : String} (y : MethodName) (hn : y.name = "<init>") (hown : s.vm.findClass own = some m.cls) (w1 : (Cond.methodLink own index y).before a0 Z = true) (w2 : (Cond.instanceMethod y).before a0 Z = true) (hy : y.cls ≠ "java/lang/invoke/MethodHandle" ∧ y.cls ≠ "java/lang/invoke/VarHandle") (w5 : (Cond.code y cb maxL none).before a0 Z = true) (w6 : (Cond.initialized y.cls).before a0 Z = true) (eT : T.heap = h) {b : Addr} (hM : MetFree l y (head1 [Cond.code y cb maxL none] rm) (fun a U => a = (.ref b :: argsL).toArray ∧ Z.Warmed39 U.vm ∧ U.heap = h) (fun _ _ _ _ _ => True) (fun _ U o U' => ∃ v L, o = .returned v ∧ Q v U'.heap L ∧ FrameEnd U o U' L rm.cells rm.slots)) {st : List Value} (hst : st = argsL.reverse ++ .ref b :: rest) (W : Nat) (hW : (rest.map fun v => v.category).sum = W) (hroom : rm.frames + 1 ≤ R.frames ∧ W + (maxL + 11) + rm.locals ≤ R.locals ∧ cells + rm.cells ≤ R.cells ∧ slots + rm.slots ≤ R.slots) {pc : Nat} {Ls : Array Slot} {nl : Nat} (hml : c.maxLocals = nl) (hsz : Ls.size = nl) (hlen : ∀ sig, parseMethodDescriptor y.desc = some sig → argsL.length = sig.parameters.length) (hd : decode bytes pc = .ok (.invokespecial index, 3)) (hby : c.code = bytes) : ∃ v T' L, Stand p l e R s m args below meth c T' (locs ++ L) (cells + rm.cells) (slots + rm.slots) ∧ Q v T'.heap L ∧ ∀ t, Steps p.tables e below (T'.setTop (mkF m (pc + 3) Ls (v.toList ++ rest))) t → Steps p.tables e below (T.setTop (mkF m pc Ls st)) t := by
  subst hst
  obtain ⟨_, _, ⟨T1, L1, k1, n1⟩, -, X1, ⟨Lc1, hQ1, l1, y1, z1⟩, st1⟩ := X.specialBack hx hn hown (mvT hZ w1) (mvT hZ w2) (mvT hZ w5) hy (backOf (W := W) hM hZ w5 w6 hroom.1 hroom.2.1) (g := mkF m pc Ls (argsL.reverse ++ .ref b :: rest)) rfl (hsz.trans hml.symm) (Steps.refl _) (a := b) (argsL := argsL) (rest := rest) hlen rfl (by show 2 * 0 + _ ≤ _; rw [Nat.mul_zero, Nat.zero_add]; exact Nat.le_of_eq hW) (hb hby hd) (fun _ _ => ⟨rfl, eT, hroom.2.2.1, hroom.2.2.2⟩)
  dsimp only [Pt.U, Pt.locs, Pt.cells, Pt.slots] at X1 l1 y1 z1 st1 hQ1
  subst l1 y1 z1
  exact ⟨_, _, _, X1, hQ1, fun _ k => st1.trans k⟩
theorem ocallV (X : Stand p l e R s m args below meth c T locs cells slots) (hx : p.tables.exec = Jvm.exec) (hZ : Z.Warmed39 s.vm) {cb : ByteArray} {maxL : Nat} {ret : Option FieldType} {rm : Room} {Q : Option Value → Heap → List Loc → Prop} {argsL rest : List Value} {index : Nat} {own : String} {C : String} (y z : MethodName) (hown : s.vm.findClass own = some m.cls) (w1 : (Cond.methodLink own index y).before a0 Z = true) (w2 : (Cond.declares y).before a0 Z = true) (nf : NotFace s y) (w4 : (Cond.selects C y z).before a0 Z = true) (w3 : (Cond.instanceMethod z).before a0 Z = true) (hy : y.cls ≠ "java/lang/invoke/MethodHandle" ∧ y.cls ≠ "java/lang/invoke/VarHandle") (w5 : (Cond.code z cb maxL ret).before a0 Z = true) (w6 : (Cond.initialized z.cls).before a0 Z = true) (eT : T.heap = h) {b : Addr} (E : Exa Z h b C) (hM : MetFree l z (head1 [Cond.code z cb maxL ret] rm) (fun a U => a = (.ref b :: argsL).toArray ∧ Z.Warmed39 U.vm ∧ U.heap = h) (fun _ _ _ _ _ => True) (fun _ U o U' => ∃ v L, o = .returned v ∧ Q v U'.heap L ∧ FrameEnd U o U' L rm.cells rm.slots)) {st : List Value} (hst : st = argsL.reverse ++ .ref b :: rest) (W : Nat) (hW : (rest.map fun v => v.category).sum = W) (hroom : rm.frames + 1 ≤ R.frames ∧ W + (maxL + 11) + rm.locals ≤ R.locals ∧ cells + rm.cells ≤ R.cells ∧ slots + rm.slots ≤ R.slots) {pc : Nat} {Ls : Array Slot} {nl : Nat} (hml : c.maxLocals = nl) (hsz : Ls.size = nl) (hlen : ∀ sig, parseMethodDescriptor y.desc = some sig → argsL.length = sig.parameters.length) (hd : decode bytes pc = .ok (.invokevirtual index, 3)) (hby : c.code = bytes) : ∃ v T' L, Stand p l e R s m args below meth c T' (locs ++ L) (cells + rm.cells) (slots + rm.slots) ∧ Q v T'.heap L ∧ ∀ t, Steps p.tables e below (T'.setTop (mkF m (pc + 3) Ls (v.toList ++ rest))) t → Steps p.tables e below (T.setTop (mkF m pc Ls st)) t := by
  subst hst
  obtain ⟨cq, kq, qa, qb, qc⟩ := isOf hZ eT E
  obtain ⟨_, _, ⟨T1, L1, k1, n1⟩, -, X1, ⟨Lc1, hQ1, l1, y1, z1⟩, st1⟩ := X.virtualBack hx hown (mvT hZ w1) (mvT hZ w2) nf (mvT hZ w4) (mvT hZ w3) hy (backOf (W := W) hM hZ w5 w6 hroom.1 hroom.2.1) qa qc (g := mkF m pc Ls (argsL.reverse ++ .ref b :: rest)) rfl (hsz.trans hml.symm) (Steps.refl _) (argsL := argsL) (rest := rest) hlen rfl (by show 2 * 0 + _ ≤ _; rw [Nat.mul_zero, Nat.zero_add]; exact Nat.le_of_eq hW) (hb hby hd) (fun _ _ => ⟨rfl, eT, hroom.2.2.1, hroom.2.2.2⟩)
  dsimp only [Pt.U, Pt.locs, Pt.cells, Pt.slots] at X1 l1 y1 z1 st1 hQ1
  subst l1 y1 z1
  exact ⟨_, _, _, X1, hQ1, fun _ k => st1.trans k⟩
theorem ocallU (X : Stand p l e R s m args below meth c T locs cells slots) (hx : p.tables.exec = Jvm.exec) (hZ : Z.Warmed39 s.vm) {cb : ByteArray} {maxL : Nat} {ret : Option FieldType} {rm : Room} {Q : Option Value → Heap → List Loc → Prop} {argsL rest : List Value} {index : Nat} {own : String} {C owner : String} (x y : MethodName) (hown : s.vm.findClass own = some m.cls) (w1 : (Cond.methodLink own index x).before a0 Z = true) (w2 : (Cond.sameMethod x.cls owner x.name x.desc).before a0 Z = true) (w7 : (Cond.declares ⟨owner, x.name, x.desc⟩).before a0 Z = true) (hy : owner ≠ "java/lang/invoke/MethodHandle" ∧ owner ≠ "java/lang/invoke/VarHandle") (w4 : (Cond.selects C x y).before a0 Z = true) (w3 : (Cond.instanceMethod y).before a0 Z = true) (w5 : (Cond.code y cb maxL ret).before a0 Z = true) (w6 : (Cond.initialized y.cls).before a0 Z = true) (eT : T.heap = h) {b : Addr} (E : Exa Z h b C) (hM : MetFree l y (head1 [Cond.code y cb maxL ret] rm) (fun a U => a = (.ref b :: argsL).toArray ∧ Z.Warmed39 U.vm ∧ U.heap = h) (fun _ _ _ _ _ => True) (fun _ U o U' => ∃ v L, o = .returned v ∧ Q v U'.heap L ∧ FrameEnd U o U' L rm.cells rm.slots)) {st : List Value} (hst : st = argsL.reverse ++ .ref b :: rest) (W : Nat) (hW : (rest.map fun v => v.category).sum = W) (hroom : rm.frames + 1 ≤ R.frames ∧ W + (maxL + 11) + rm.locals ≤ R.locals ∧ cells + rm.cells ≤ R.cells ∧ slots + rm.slots ≤ R.slots) {pc : Nat} {Ls : Array Slot} {nl : Nat} (hml : c.maxLocals = nl) (hsz : Ls.size = nl) (hlen : ∀ sig, parseMethodDescriptor x.desc = some sig → argsL.length = sig.parameters.length) (hd : decode bytes pc = .ok (.invokevirtual index, 3)) (hby : c.code = bytes) : ∃ v T' L, Stand p l e R s m args below meth c T' (locs ++ L) (cells + rm.cells) (slots + rm.slots) ∧ Q v T'.heap L ∧ ∀ t, Steps p.tables e below (T'.setTop (mkF m (pc + 3) Ls (v.toList ++ rest))) t → Steps p.tables e below (T.setTop (mkF m pc Ls st)) t := by
  subst hst
  obtain ⟨cq, kq, qa, qb, qc⟩ := isOf hZ eT E
  obtain ⟨_, _, ⟨T1, L1, k1, n1⟩, -, X1, ⟨Lc1, hQ1, l1, y1, z1⟩, st1⟩ := X.virtualBackUp hx hown (mvT hZ w1) (mvT hZ w2) (mvT hZ w7) hy (mvT hZ w4) (mvT hZ w3) (backOf (W := W) hM hZ w5 w6 hroom.1 hroom.2.1) qa qc (g := mkF m pc Ls (argsL.reverse ++ .ref b :: rest)) rfl (hsz.trans hml.symm) (Steps.refl _) (argsL := argsL) (rest := rest) hlen rfl (by show 2 * 0 + _ ≤ _; rw [Nat.mul_zero, Nat.zero_add]; exact Nat.le_of_eq hW) (hb hby hd) (fun _ _ => ⟨rfl, eT, hroom.2.2.1, hroom.2.2.2⟩)
  dsimp only [Pt.U, Pt.locs, Pt.cells, Pt.slots] at X1 l1 y1 z1 st1 hQ1
  subst l1 y1 z1
  exact ⟨_, _, _, X1, hQ1, fun _ k => st1.trans k⟩
theorem ocallP (X : Stand p l e R s m args below meth c T locs cells slots) (hx : p.tables.exec = Jvm.exec) (hZ : Z.Warmed39 s.vm) {cb : ByteArray} {maxL : Nat} {ret : Option FieldType} {rm : Room} {Q : Option Value → Heap → List Loc → Prop} {argsL rest : List Value} {index : Nat} {own : String} (y : MethodName) (hown : s.vm.findClass own = some m.cls) (w1 : (Cond.methodLink own index y).before a0 Z = true) (w2 : (Cond.instanceMethod y).before a0 Z = true) (w4 : (Cond.selects y.cls y y).before args s = true) (w3 : (Cond.privateMethod y).before a0 Z = true) (hy : y.cls ≠ "java/lang/invoke/MethodHandle" ∧ y.cls ≠ "java/lang/invoke/VarHandle") (w5 : (Cond.code y cb maxL ret).before a0 Z = true) (w6 : (Cond.initialized y.cls).before a0 Z = true) (eT : T.heap = h) {C : String} {b : Addr} (E : Exa Z h b C) (hM : MetFree l y (head1 [Cond.code y cb maxL ret] rm) (fun a U => a = (.ref b :: argsL).toArray ∧ Z.Warmed39 U.vm ∧ U.heap = h) (fun _ _ _ _ _ => True) (fun _ U o U' => ∃ v L, o = .returned v ∧ Q v U'.heap L ∧ FrameEnd U o U' L rm.cells rm.slots)) {st : List Value} (hst : st = argsL.reverse ++ .ref b :: rest) (W : Nat) (hW : (rest.map fun v => v.category).sum = W) (hroom : rm.frames + 1 ≤ R.frames ∧ W + (maxL + 11) + rm.locals ≤ R.locals ∧ cells + rm.cells ≤ R.cells ∧ slots + rm.slots ≤ R.slots) {pc : Nat} {Ls : Array Slot} {nl : Nat} (hml : c.maxLocals = nl) (hsz : Ls.size = nl) (hlen : ∀ sig, parseMethodDescriptor y.desc = some sig → argsL.length = sig.parameters.length) (hd : decode bytes pc = .ok (.invokevirtual index, 3)) (hby : c.code = bytes) : ∃ v T' L, Stand p l e R s m args below meth c T' (locs ++ L) (cells + rm.cells) (slots + rm.slots) ∧ Q v T'.heap L ∧ ∀ t, Steps p.tables e below (T'.setTop (mkF m (pc + 3) Ls (v.toList ++ rest))) t → Steps p.tables e below (T.setTop (mkF m pc Ls st)) t := by
  subst hst
  obtain ⟨cq, q1, q2⟩ := E.cell
  obtain ⟨_, _, ⟨T1, L1, k1, n1⟩, -, X1, ⟨Lc1, hQ1, l1, y1, z1⟩, st1⟩ := X.privateBack hx hown (mvT hZ w1) (mvT hZ w2) w4 (Cond.privateMethod_at (mvP hZ w3 (args := #[]))) (mvT hZ w5) hy (backOf (W := W) hM hZ w5 w6 hroom.1 hroom.2.1) (g := mkF m pc Ls (argsL.reverse ++ .ref b :: rest)) rfl (hsz.trans hml.symm) (Steps.refl _) (a := b) (by rw [eT]; exact q1) q2 (argsL := argsL) (rest := rest) hlen rfl (by show 2 * 0 + _ ≤ _; rw [Nat.mul_zero, Nat.zero_add]; exact Nat.le_of_eq hW) (hb hby hd) (fun _ _ => ⟨rfl, eT, hroom.2.2.1, hroom.2.2.2⟩)
  dsimp only [Pt.U, Pt.locs, Pt.cells, Pt.slots] at X1 l1 y1 z1 st1 hQ1
  subst l1 y1 z1
  exact ⟨_, _, _, X1, hQ1, fun _ k => st1.trans k⟩
theorem ocallN (X : Stand p l e R s m args below meth c T locs cells slots) (hx : p.tables.exec = Jvm.exec) (hZ : Z.Warmed39 s.vm) {cb : ByteArray} {maxL : Nat} {ret : Option FieldType} {rm : Room} {Q : Option Value → Heap → List Loc → Prop} {argsL rest : List Value} {index : Nat} {own : String} {C : String} (x y : MethodName) (hown : s.vm.findClass own = some m.cls) (w1 : (Cond.methodLink own index x).before a0 Z = true) (w2 : (Cond.declares x).before a0 Z = true) (w7 : (Cond.interfaceMethod x.cls x.cls x.name x.desc).before args s = true) (w4 : (Cond.selects C x y).before a0 Z = true) (w3 : (Cond.instanceMethod y).before a0 Z = true) (w8 : (Cond.publicMethod y).before a0 Z = true) (w9 : (Cond.unhidden C x.name x.desc).before a0 Z = true) (wa : (Cond.castable C x.cls).before a0 Z = true) (hy : x.cls ≠ "java/lang/invoke/MethodHandle" ∧ x.cls ≠ "java/lang/invoke/VarHandle") (w5 : (Cond.code y cb maxL ret).before a0 Z = true) (w6 : (Cond.initialized y.cls).before a0 Z = true) (eT : T.heap = h) {b : Addr} (E : Exa Z h b C) {cnt : Nat} (hM : MetFree l y (head1 [Cond.code y cb maxL ret] rm) (fun a U => a = (.ref b :: argsL).toArray ∧ Z.Warmed39 U.vm ∧ U.heap = h) (fun _ _ _ _ _ => True) (fun _ U o U' => ∃ v L, o = .returned v ∧ Q v U'.heap L ∧ FrameEnd U o U' L rm.cells rm.slots)) {st : List Value} (hst : st = argsL.reverse ++ .ref b :: rest) (W : Nat) (hW : (rest.map fun v => v.category).sum = W) (hroom : rm.frames + 1 ≤ R.frames ∧ W + (maxL + 11) + rm.locals ≤ R.locals ∧ cells + rm.cells ≤ R.cells ∧ slots + rm.slots ≤ R.slots) {pc : Nat} {Ls : Array Slot} {nl : Nat} (hml : c.maxLocals = nl) (hsz : Ls.size = nl) (hlen : ∀ sig, parseMethodDescriptor x.desc = some sig → argsL.length = sig.parameters.length) (hd : decode bytes pc = .ok (.invokeinterface index cnt, 5)) (hby : c.code = bytes) : ∃ v T' L, Stand p l e R s m args below meth c T' (locs ++ L) (cells + rm.cells) (slots + rm.slots) ∧ Q v T'.heap L ∧ ∀ t, Steps p.tables e below (T'.setTop (mkF m (pc + 5) Ls (v.toList ++ rest))) t → Steps p.tables e below (T.setTop (mkF m pc Ls st)) t := by
  subst hst
  obtain ⟨cq, kq, qa, qb, qc⟩ := isOf hZ eT E
  obtain ⟨_, _, ⟨T1, L1, k1, n1⟩, -, X1, ⟨Lc1, hQ1, l1, y1, z1⟩, st1⟩ := X.interfaceBack hx hown (mvT hZ w1) (mvT hZ w2) w7 (mvT hZ w4) (mvT hZ w3) (mvT hZ w8) (mvT hZ w9) (mvT hZ wa) hy (backOf (W := W) hM hZ w5 w6 hroom.1 hroom.2.1) qa qb qc (g := mkF m pc Ls (argsL.reverse ++ .ref b :: rest)) rfl (hsz.trans hml.symm) (Steps.refl _) (argsL := argsL) (rest := rest) hlen rfl (by show 2 * 0 + _ ≤ _; rw [Nat.mul_zero, Nat.zero_add]; exact Nat.le_of_eq hW) (hb hby hd) (fun _ _ => ⟨rfl, eT, hroom.2.2.1, hroom.2.2.2⟩)
  dsimp only [Pt.U, Pt.locs, Pt.cells, Pt.slots] at X1 l1 y1 z1 st1 hQ1
  subst l1 y1 z1
  exact ⟨_, _, _, X1, hQ1, fun _ k => st1.trans k⟩
end OwnCalls
end Jvm.RoadKit
namespace Jvm.Pilot.@@N@@
open Jvm Jvm.ClassFile Sem Op Lib Jvm.Free Jvm.Stand Jvm.LawKit Jvm.RoadKit Bundle Jvm.Pilot.@@N@@.Jvm.D
theorem ww {Z : State} {a0 : Array Value} (hw : ∀ d ∈ tables_1, d.before a0 Z = true) (i : Nat) {d : Jvm.Cond} (h : tables_1[i]? = some d) : d.before a0 Z = true := hw d (List.mem_of_getElem? h)
def QLaw (n0 : Nat) (v : Option Value) (h : Heap) (L : List Loc) : Prop := v = some (.int (1 : Int32)) ∧ Fr n0 L

def own_inward (x : Int64) : Int64 := if x = (-9223372036854775808 : Int64) then (-9223372036854775807 : Int64) else if x = (9223372036854775807 : Int64) then (9223372036854775806 : Int64) else x
theorem own_inward_b (x : Int64) : -9223372036854775807 ≤ (own_inward x).toInt ∧ (own_inward x).toInt ≤ 9223372036854775806 := by
  unfold own_inward
  have h1 := x.toInt_lt; have h2 := x.le_toInt
  split
  · decide
  · split
    · decide
    · rename_i a b
      have a' : ¬ x.toInt = -9223372036854775808 := fun e => a (Int64.toInt_inj.mp (e.trans (by decide)))
      have b' : ¬ x.toInt = 9223372036854775807 := fun e => b (Int64.toInt_inj.mp (e.trans (by decide)))
      omega
theorem own_r2 (t : Int32) (h0 : 0 ≤ t.toInt) (h1 : t.toInt < 2) : t = (0 : Int32) ∨ t = (1 : Int32) := by
  have h : t.toInt = 0 ∨ t.toInt = 1 := by omega
  rcases h with h | h <;> simp [← Int32.toInt_inj, h]
theorem own_s2 (x : Int32) : x &&& (1 : Int32) = (0 : Int32) ∨ x &&& (1 : Int32) = (1 : Int32) := own_r2 _ (c_and x 1 (by decide)).1 (by have h := (c_and x 1 (by decide)).2; have e : (1 : Int32).toInt = 1 := (by decide); omega)
abbrev lc0 (x0 : Int32) (x1 : Int64) (x2 : Int64) (x3 : Int64) : Array Slot := #[.val (.int x0), .val (.long x1), .second, .val (.long x2), .second, .val (.long x3), .second, .unset, .unset, .unset, .unset, .unset, .unset, .unset, .unset, .unset, .unset, .unset, .unset, .unset, .unset, .unset, .unset, .unset]
abbrev lc1 (x0 : Int32) (x1 : Int64) (x2 : Int64) (x3 : Int64) (x4 : Int32) : Array Slot := #[.val (.int x0), .val (.long x1), .second, .val (.long x2), .second, .val (.long x3), .second, .val (.int x4), .unset, .unset, .unset, .unset, .unset, .unset, .unset, .unset, .unset, .unset, .unset, .unset, .unset, .unset, .unset, .unset]
abbrev lc2 (x0 : Int32) (x1 : Int64) (x2 : Int64) (x3 : Int64) (x4 : Int32) (x5 : Addr) : Array Slot := #[.val (.int x0), .val (.long x1), .second, .val (.long x2), .second, .val (.long x3), .second, .val (.int x4), .val (.ref x5), .unset, .unset, .unset, .unset, .unset, .unset, .unset, .unset, .unset, .unset, .unset, .unset, .unset, .unset, .unset]
theorem d1_0 : decode method_2_code 0 = .ok (.lload_n 0, 1) := by decide +kernel
theorem d1_1 : decode method_2_code 1 = .ok (.ldc2_w 9, 3) := by decide +kernel
abbrev lc3 (x0 : Int64) : Array Slot := #[.val (.long x0), .second]
theorem d1_4 : decode method_2_code 4 = .ok (.lcmp, 1) := by decide +kernel
theorem d1_5 : decode method_2_code 5 = .ok (.ifCond .ne 7, 3) := by decide +kernel
theorem d1_8 : decode method_2_code 8 = .ok (.ldc2_w 11, 3) := by decide +kernel
theorem d1_11 : decode method_2_code 11 = .ok (.lreturn, 1) := by decide +kernel
theorem d1_12 : decode method_2_code 12 = .ok (.lload_n 0, 1) := by decide +kernel
theorem d1_13 : decode method_2_code 13 = .ok (.ldc2_w 13, 3) := by decide +kernel
theorem d1_16 : decode method_2_code 16 = .ok (.lcmp, 1) := by decide +kernel
theorem d1_17 : decode method_2_code 17 = .ok (.ifCond .ne 7, 3) := by decide +kernel
theorem d1_20 : decode method_2_code 20 = .ok (.ldc2_w 15, 3) := by decide +kernel
theorem d1_23 : decode method_2_code 23 = .ok (.lreturn, 1) := by decide +kernel
theorem d1_24 : decode method_2_code 24 = .ok (.lload_n 0, 1) := by decide +kernel
theorem d1_25 : decode method_2_code 25 = .ok (.lreturn, 1) := by decide +kernel
theorem ef_0 (m : MethodId) (x0 : Int64) : entryFrame m #[(.long x0)] 2 = mkF m 0 #[.val (.long x0), .second] [] := by first | (simp [entryFrame, mkF, argsToLocals, Value.category, maxLocals]; done) | rfl
theorem pn_com_example_srok_srok_engine_BookSideBestPinLaw : plainName "com/example/srok/srok/engine/BookSideBestPinLaw" = true := by first | (simp [plainName, overriddenIn]; done) | decide +kernel
theorem pd_0 : parseMethodDescriptor "(J)J" = some ⟨[.long], some .long⟩ := by decide +kernel
abbrev lc4 (x0 : Int32) (x1 : Int64) (x2 : Int64) (x3 : Int64) (x4 : Int32) (x5 : Addr) (x6 : Int64) : Array Slot := #[.val (.int x0), .val (.long x1), .second, .val (.long x2), .second, .val (.long x3), .second, .val (.int x4), .val (.ref x5), .val (.long x6), .second, .unset, .unset, .unset, .unset, .unset, .unset, .unset, .unset, .unset, .unset, .unset, .unset, .unset]
abbrev lc5 (x0 : Int32) (x1 : Int64) (x2 : Int64) (x3 : Int64) (x4 : Int32) (x5 : Addr) (x6 : Int64) (x7 : Int64) : Array Slot := #[.val (.int x0), .val (.long x1), .second, .val (.long x2), .second, .val (.long x3), .second, .val (.int x4), .val (.ref x5), .val (.long x6), .second, .val (.long x7), .second, .unset, .unset, .unset, .unset, .unset, .unset, .unset, .unset, .unset, .unset, .unset]
abbrev lc6 (x0 : Int32) (x1 : Int64) (x2 : Int64) (x3 : Int64) (x4 : Int32) (x5 : Addr) (x6 : Int64) (x7 : Int64) (x8 : Int64) : Array Slot := #[.val (.int x0), .val (.long x1), .second, .val (.long x2), .second, .val (.long x3), .second, .val (.int x4), .val (.ref x5), .val (.long x6), .second, .val (.long x7), .second, .val (.long x8), .second, .unset, .unset, .unset, .unset, .unset, .unset, .unset, .unset, .unset]
theorem d2_0 : decode prog_2_method_1_code 0 = .ok (.aload_n 0, 1) := by decide +kernel
theorem d2_1 : decode prog_2_method_1_code 1 = .ok (.invokespecial 1, 3) := by decide +kernel
abbrev lc7 (x0 : Addr) (x1 : Addr) : Array Slot := #[.val (.ref x0), .val (.ref x1)]
theorem d2_4 : decode prog_2_method_1_code 4 = .ok (.aload_n 0, 1) := by decide +kernel
theorem d2_5 : decode prog_2_method_1_code 5 = .ok (.bipush 16, 2) := by decide +kernel
theorem d2_7 : decode prog_2_method_1_code 7 = .ok (.anewarray 9, 3) := by decide +kernel
theorem d2_10 : decode prog_2_method_1_code 10 = .ok (.putfield 11, 3) := by decide +kernel
theorem d2_13 : decode prog_2_method_1_code 13 = .ok (.aload_n 0, 1) := by decide +kernel
theorem d2_14 : decode prog_2_method_1_code 14 = .ok (.bipush 16, 2) := by decide +kernel
theorem d2_16 : decode prog_2_method_1_code 16 = .ok (.newarray .long, 2) := by decide +kernel
theorem d2_18 : decode prog_2_method_1_code 18 = .ok (.putfield 15, 3) := by decide +kernel
theorem d2_21 : decode prog_2_method_1_code 21 = .ok (.aload_n 0, 1) := by decide +kernel
theorem d2_22 : decode prog_2_method_1_code 22 = .ok (.aload_n 1, 1) := by decide +kernel
theorem d2_23 : decode prog_2_method_1_code 23 = .ok (.putfield 19, 3) := by decide +kernel
theorem d2_26 : decode prog_2_method_1_code 26 = .ok (.return_, 1) := by decide +kernel
theorem ef_1 (m : MethodId) (x0 : Addr) (x1 : Addr) : entryFrame m #[(.ref x0), (.ref x1)] 2 = mkF m 0 #[.val (.ref x0), .val (.ref x1)] [] := by first | (simp [entryFrame, mkF, argsToLocals, Value.category, maxLocals]; done) | rfl
theorem pn_com_example_srok_srok_engine_BookSide : plainName "com/example/srok/srok/engine/BookSide" = true := by first | (simp [plainName, overriddenIn]; done) | decide +kernel
theorem pd_1 : parseMethodDescriptor "(Lcom/example/srok/srok/engine/Side;)V" = some ⟨[(.object "com/example/srok/srok/engine/Side")], none⟩ := by decide +kernel
abbrev lc8 (x0 : Int32) (x1 : Int64) (x2 : Int64) (x3 : Int64) (x4 : Int32) (x5 : Addr) (x6 : Int64) (x7 : Int64) (x8 : Int64) (x9 : Addr) : Array Slot := #[.val (.int x0), .val (.long x1), .second, .val (.long x2), .second, .val (.long x3), .second, .val (.int x4), .val (.ref x5), .val (.long x6), .second, .val (.long x7), .second, .val (.long x8), .second, .val (.ref x9), .unset, .unset, .unset, .unset, .unset, .unset, .unset, .unset]
theorem d4_0 : decode prog_2_method_3_code 0 = .ok (.aload_n 0, 1) := by decide +kernel
theorem d4_1 : decode prog_2_method_3_code 1 = .ok (.getfield 23, 3) := by decide +kernel
abbrev lc9 (x0 : Addr) : Array Slot := #[.val (.ref x0)]
theorem d4_4 : decode prog_2_method_3_code 4 = .ok (.ifCond .ne 7, 3) := by decide +kernel
theorem d4_7 : decode prog_2_method_3_code 7 = .ok (.aconst_null, 1) := by decide +kernel
theorem d4_8 : decode prog_2_method_3_code 8 = .ok (.goto 14, 3) := by decide +kernel
theorem d4_22 : decode prog_2_method_3_code 22 = .ok (.areturn, 1) := by decide +kernel
theorem ef_2 (m : MethodId) (x0 : Addr) : entryFrame m #[(.ref x0)] 1 = mkF m 0 #[.val (.ref x0)] [] := by first | (simp [entryFrame, mkF, argsToLocals, Value.category, maxLocals]; done) | rfl
theorem pd_2 : parseMethodDescriptor "()Lcom/example/srok/srok/engine/PriceLevel;" = some ⟨[], some (.object "com/example/srok/srok/engine/PriceLevel")⟩ := by decide +kernel
theorem d5_0 : decode prog_2_method_5_code 0 = .ok (.aload_n 0, 1) := by decide +kernel
theorem d5_1 : decode prog_2_method_5_code 1 = .ok (.lload_n 1, 1) := by decide +kernel
theorem d5_2 : decode prog_2_method_5_code 2 = .ok (.aload_n 3, 1) := by decide +kernel
theorem d5_3 : decode prog_2_method_5_code 3 = .ok (.invokevirtual 35, 3) := by decide +kernel
abbrev lc10 (x0 : Addr) (x1 : Int64) : Array Slot := #[.val (.ref x0), .val (.long x1), .second, .val .null, .unset, .unset, .unset]
theorem d6_0 : decode prog_2_method_8_code 0 = .ok (.aload_n 0, 1) := by decide +kernel
theorem d6_1 : decode prog_2_method_8_code 1 = .ok (.lload_n 1, 1) := by decide +kernel
theorem d6_2 : decode prog_2_method_8_code 2 = .ok (.invokevirtual 65, 3) := by decide +kernel
abbrev lc11 (x0 : Addr) (x1 : Int64) : Array Slot := #[.val (.ref x0), .val (.long x1), .second, .val .null, .unset, .unset, .unset, .unset, .unset, .unset, .unset]
theorem d7_0 : decode prog_2_method_7_code 0 = .ok (.aload_n 0, 1) := by decide +kernel
theorem d7_1 : decode prog_2_method_7_code 1 = .ok (.getfield 19, 3) := by decide +kernel
abbrev lc12 (x0 : Addr) (x1 : Int64) : Array Slot := #[.val (.ref x0), .val (.long x1), .second]
theorem d7_4 : decode prog_2_method_7_code 4 = .ok (.getstatic 73, 3) := by decide +kernel
theorem d7_7 : decode prog_2_method_7_code 7 = .ok (.if_acmp .ne 7, 3) := by decide +kernel
theorem d7_10 : decode prog_2_method_7_code 10 = .ok (.lload_n 1, 1) := by decide +kernel
theorem d7_11 : decode prog_2_method_7_code 11 = .ok (.goto 8, 3) := by decide +kernel
theorem d7_19 : decode prog_2_method_7_code 19 = .ok (.lreturn, 1) := by decide +kernel
theorem ef_3 (m : MethodId) (x0 : Addr) (x1 : Int64) : entryFrame m #[(.ref x0), (.long x1)] 3 = mkF m 0 #[.val (.ref x0), .val (.long x1), .second] [] := by first | (simp [entryFrame, mkF, argsToLocals, Value.category, maxLocals]; done) | rfl
theorem d6_5 : decode prog_2_method_8_code 5 = .ok (.lstore 4, 2) := by decide +kernel
abbrev lc13 (x0 : Addr) (x1 : Int64) (x2 : Int64) : Array Slot := #[.val (.ref x0), .val (.long x1), .second, .val .null, .val (.long x2), .second, .unset, .unset, .unset, .unset, .unset]
theorem d6_7 : decode prog_2_method_8_code 7 = .ok (.aload_n 0, 1) := by decide +kernel
theorem d6_8 : decode prog_2_method_8_code 8 = .ok (.getfield 23, 3) := by decide +kernel
theorem d6_11 : decode prog_2_method_8_code 11 = .ok (.istore 6, 2) := by decide +kernel
abbrev lc14 (x0 : Addr) (x1 : Int64) (x2 : Int64) (x3 : Int32) : Array Slot := #[.val (.ref x0), .val (.long x1), .second, .val .null, .val (.long x2), .second, .val (.int x3), .unset, .unset, .unset, .unset]
theorem d6_13 : decode prog_2_method_8_code 13 = .ok (.iconst 1, 1) := by decide +kernel
theorem d6_14 : decode prog_2_method_8_code 14 = .ok (.istore 7, 2) := by decide +kernel
abbrev lc15 (x0 : Addr) (x1 : Int64) (x2 : Int64) (x3 : Int32) (x4 : Int32) : Array Slot := #[.val (.ref x0), .val (.long x1), .second, .val .null, .val (.long x2), .second, .val (.int x3), .val (.int x4), .unset, .unset, .unset]
theorem d6_16 : decode prog_2_method_8_code 16 = .ok (.iload 6, 2) := by decide +kernel
theorem d6_18 : decode prog_2_method_8_code 18 = .ok (.iload 7, 2) := by decide +kernel
theorem d6_20 : decode prog_2_method_8_code 20 = .ok (.isub, 1) := by decide +kernel
theorem d6_21 : decode prog_2_method_8_code 21 = .ok (.ifCond .lt 35, 3) := by decide +kernel
theorem d6_56 : decode prog_2_method_8_code 56 = .ok (.iconst 0, 1) := by decide +kernel
theorem d6_57 : decode prog_2_method_8_code 57 = .ok (.iload 6, 2) := by decide +kernel
theorem d6_59 : decode prog_2_method_8_code 59 = .ok (.iload 7, 2) := by decide +kernel
theorem d6_61 : decode prog_2_method_8_code 61 = .ok (.isub, 1) := by decide +kernel
theorem d6_62 : decode prog_2_method_8_code 62 = .ok (.iconst 1, 1) := by decide +kernel
theorem d6_63 : decode prog_2_method_8_code 63 = .ok (.iadd, 1) := by decide +kernel
theorem d6_64 : decode prog_2_method_8_code 64 = .ok (.invokestatic 80, 3) := by decide +kernel
theorem d8_0 : decode jdk_29_method_65_code 0 = .ok (.iload_n 0, 1) := by decide +kernel
theorem d8_1 : decode jdk_29_method_65_code 1 = .ok (.iload_n 1, 1) := by decide +kernel
theorem d8_2 : decode jdk_29_method_65_code 2 = .ok (.if_icmp .lt 7, 3) := by decide +kernel
abbrev lc16 (x0 : Int32) (x1 : Int32) : Array Slot := #[.val (.int x0), .val (.int x1)]
theorem d8_5 : decode jdk_29_method_65_code 5 = .ok (.iload_n 0, 1) := by decide +kernel
theorem d8_6 : decode jdk_29_method_65_code 6 = .ok (.goto 4, 3) := by decide +kernel
theorem d8_10 : decode jdk_29_method_65_code 10 = .ok (.ireturn, 1) := by decide +kernel
theorem ef_4 (m : MethodId) (x0 : Int32) (x1 : Int32) : entryFrame m #[(.int x0), (.int x1)] 2 = mkF m 0 #[.val (.int x0), .val (.int x1)] [] := by first | (simp [entryFrame, mkF, argsToLocals, Value.category, maxLocals]; done) | rfl
theorem pd_3 : parseMethodDescriptor "(II)I" = some ⟨[.int, .int], some .int⟩ := by decide +kernel
theorem d6_67 : decode prog_2_method_8_code 67 = .ok (.istore 8, 2) := by decide +kernel
abbrev lc17 (x0 : Addr) (x1 : Int64) (x2 : Int64) (x3 : Int32) (x4 : Int32) (x5 : Int32) : Array Slot := #[.val (.ref x0), .val (.long x1), .second, .val .null, .val (.long x2), .second, .val (.int x3), .val (.int x4), .val (.int x5), .unset, .unset]
theorem d6_69 : decode prog_2_method_8_code 69 = .ok (.iload 6, 2) := by decide +kernel
theorem d6_71 : decode prog_2_method_8_code 71 = .ok (.iload 8, 2) := by decide +kernel
theorem d6_73 : decode prog_2_method_8_code 73 = .ok (.isub, 1) := by decide +kernel
theorem d6_74 : decode prog_2_method_8_code 74 = .ok (.istore 9, 2) := by decide +kernel
abbrev lc18 (x0 : Addr) (x1 : Int64) (x2 : Int64) (x3 : Int32) (x4 : Int32) (x5 : Int32) (x6 : Int32) : Array Slot := #[.val (.ref x0), .val (.long x1), .second, .val .null, .val (.long x2), .second, .val (.int x3), .val (.int x4), .val (.int x5), .val (.int x6), .unset]
theorem d6_76 : decode prog_2_method_8_code 76 = .ok (.iload 9, 2) := by decide +kernel
theorem d6_78 : decode prog_2_method_8_code 78 = .ok (.iconst 1, 1) := by decide +kernel
theorem d6_79 : decode prog_2_method_8_code 79 = .ok (.if_icmp .le 49, 3) := by decide +kernel
theorem d6_128 : decode prog_2_method_8_code 128 = .ok (.iload 8, 2) := by decide +kernel
theorem d6_130 : decode prog_2_method_8_code 130 = .ok (.iload 6, 2) := by decide +kernel
theorem d6_132 : decode prog_2_method_8_code 132 = .ok (.if_icmp .ge 19, 3) := by decide +kernel
theorem d6_151 : decode prog_2_method_8_code 151 = .ok (.lload 4, 2) := by decide +kernel
theorem d6_153 : decode prog_2_method_8_code 153 = .ok (.ldc2_w 88, 3) := by decide +kernel
theorem d6_156 : decode prog_2_method_8_code 156 = .ok (.lcmp, 1) := by decide +kernel
theorem d6_157 : decode prog_2_method_8_code 157 = .ok (.ifCond .eq 16, 3) := by decide +kernel
theorem d6_160 : decode prog_2_method_8_code 160 = .ok (.lload 4, 2) := by decide +kernel
theorem d6_162 : decode prog_2_method_8_code 162 = .ok (.ldc2_w 90, 3) := by decide +kernel
theorem d6_165 : decode prog_2_method_8_code 165 = .ok (.lcmp, 1) := by decide +kernel
theorem d6_166 : decode prog_2_method_8_code 166 = .ok (.ifCond .eq 7, 3) := by decide +kernel
theorem d6_169 : decode prog_2_method_8_code 169 = .ok (.iconst 1, 1) := by decide +kernel
theorem d6_170 : decode prog_2_method_8_code 170 = .ok (.goto 4, 3) := by decide +kernel
theorem d6_174 : decode prog_2_method_8_code 174 = .ok (.istore 9, 2) := by decide +kernel
theorem d6_176 : decode prog_2_method_8_code 176 = .ok (.iload 9, 2) := by decide +kernel
theorem d6_178 : decode prog_2_method_8_code 178 = .ok (.ifCond .ne 49, 3) := by decide +kernel
theorem d6_227 : decode prog_2_method_8_code 227 = .ok (.iload 8, 2) := by decide +kernel
theorem d6_229 : decode prog_2_method_8_code 229 = .ok (.aload_n 0, 1) := by decide +kernel
theorem d6_230 : decode prog_2_method_8_code 230 = .ok (.getfield 23, 3) := by decide +kernel
theorem d6_233 : decode prog_2_method_8_code 233 = .ok (.if_icmp .ge 42, 3) := by decide +kernel
theorem d6_275 : decode prog_2_method_8_code 275 = .ok (.iconst 0, 1) := by decide +kernel
theorem d6_276 : decode prog_2_method_8_code 276 = .ok (.istore 10, 2) := by decide +kernel
abbrev lc19 (x0 : Addr) (x1 : Int64) (x2 : Int64) (x3 : Int32) (x4 : Int32) (x5 : Int32) (x6 : Int32) (x7 : Int32) : Array Slot := #[.val (.ref x0), .val (.long x1), .second, .val .null, .val (.long x2), .second, .val (.int x3), .val (.int x4), .val (.int x5), .val (.int x6), .val (.int x7)]
theorem d6_278 : decode prog_2_method_8_code 278 = .ok (.iload 10, 2) := by decide +kernel
theorem d6_280 : decode prog_2_method_8_code 280 = .ok (.ifCond .eq 8, 3) := by decide +kernel
theorem d6_288 : decode prog_2_method_8_code 288 = .ok (.iconst (-1), 1) := by decide +kernel
theorem d6_289 : decode prog_2_method_8_code 289 = .ok (.iload 8, 2) := by decide +kernel
theorem d6_291 : decode prog_2_method_8_code 291 = .ok (.isub, 1) := by decide +kernel
theorem d6_292 : decode prog_2_method_8_code 292 = .ok (.ireturn, 1) := by decide +kernel
theorem ef_5 (m : MethodId) (x0 : Addr) (x1 : Int64) : entryFrame m #[(.ref x0), (.long x1), .null] 11 = mkF m 0 #[.val (.ref x0), .val (.long x1), .second, .val .null, .unset, .unset, .unset, .unset, .unset, .unset, .unset] [] := by first | (simp [entryFrame, mkF, argsToLocals, Value.category, maxLocals]; done) | rfl
theorem pd_4 : parseMethodDescriptor "(JLjava/math/BigDecimal;)I" = some ⟨[.long, (.object "java/math/BigDecimal")], some .int⟩ := by decide +kernel
theorem d5_6 : decode prog_2_method_5_code 6 = .ok (.istore 4, 2) := by decide +kernel
abbrev lc20 (x0 : Addr) (x1 : Int64) (x2 : Int32) : Array Slot := #[.val (.ref x0), .val (.long x1), .second, .val .null, .val (.int x2), .unset, .unset]
theorem d5_8 : decode prog_2_method_5_code 8 = .ok (.iload 4, 2) := by decide +kernel
theorem d5_10 : decode prog_2_method_5_code 10 = .ok (.ifCond .lt 34, 3) := by decide +kernel
theorem d5_44 : decode prog_2_method_5_code 44 = .ok (.iload 4, 2) := by decide +kernel
theorem d5_46 : decode prog_2_method_5_code 46 = .ok (.ineg, 1) := by decide +kernel
theorem d5_47 : decode prog_2_method_5_code 47 = .ok (.iconst 1, 1) := by decide +kernel
theorem d5_48 : decode prog_2_method_5_code 48 = .ok (.isub, 1) := by decide +kernel
theorem d5_49 : decode prog_2_method_5_code 49 = .ok (.istore 5, 2) := by decide +kernel
abbrev lc21 (x0 : Addr) (x1 : Int64) (x2 : Int32) (x3 : Int32) : Array Slot := #[.val (.ref x0), .val (.long x1), .second, .val .null, .val (.int x2), .val (.int x3), .unset]
theorem d5_51 : decode prog_2_method_5_code 51 = .ok (.aload_n 0, 1) := by decide +kernel
theorem d5_52 : decode prog_2_method_5_code 52 = .ok (.getfield 23, 3) := by decide +kernel
theorem d5_55 : decode prog_2_method_5_code 55 = .ok (.aload_n 0, 1) := by decide +kernel
theorem d5_56 : decode prog_2_method_5_code 56 = .ok (.getfield 11, 3) := by decide +kernel
theorem d5_59 : decode prog_2_method_5_code 59 = .ok (.arraylength, 1) := by decide +kernel
theorem d5_60 : decode prog_2_method_5_code 60 = .ok (.if_icmp .ne 40, 3) := by decide +kernel
theorem d5_100 : decode prog_2_method_5_code 100 = .ok (.aload_n 0, 1) := by decide +kernel
theorem d5_101 : decode prog_2_method_5_code 101 = .ok (.getfield 11, 3) := by decide +kernel
theorem d5_104 : decode prog_2_method_5_code 104 = .ok (.iload 5, 2) := by decide +kernel
theorem d5_106 : decode prog_2_method_5_code 106 = .ok (.aload_n 0, 1) := by decide +kernel
theorem d5_107 : decode prog_2_method_5_code 107 = .ok (.getfield 11, 3) := by decide +kernel
theorem d5_110 : decode prog_2_method_5_code 110 = .ok (.iload 5, 2) := by decide +kernel
theorem d5_112 : decode prog_2_method_5_code 112 = .ok (.iconst 1, 1) := by decide +kernel
theorem d5_113 : decode prog_2_method_5_code 113 = .ok (.iadd, 1) := by decide +kernel
theorem d5_114 : decode prog_2_method_5_code 114 = .ok (.aload_n 0, 1) := by decide +kernel
theorem d5_115 : decode prog_2_method_5_code 115 = .ok (.getfield 23, 3) := by decide +kernel
theorem d5_118 : decode prog_2_method_5_code 118 = .ok (.iload 5, 2) := by decide +kernel
theorem d5_120 : decode prog_2_method_5_code 120 = .ok (.isub, 1) := by decide +kernel
theorem d5_121 : decode prog_2_method_5_code 121 = .ok (.invokestatic 56, 3) := by decide +kernel
theorem d5_124 : decode prog_2_method_5_code 124 = .ok (.aload_n 0, 1) := by decide +kernel
theorem d5_125 : decode prog_2_method_5_code 125 = .ok (.getfield 15, 3) := by decide +kernel
theorem d5_128 : decode prog_2_method_5_code 128 = .ok (.iload 5, 2) := by decide +kernel
theorem d5_130 : decode prog_2_method_5_code 130 = .ok (.aload_n 0, 1) := by decide +kernel
theorem d5_131 : decode prog_2_method_5_code 131 = .ok (.getfield 15, 3) := by decide +kernel
theorem d5_134 : decode prog_2_method_5_code 134 = .ok (.iload 5, 2) := by decide +kernel
theorem d5_136 : decode prog_2_method_5_code 136 = .ok (.iconst 1, 1) := by decide +kernel
theorem d5_137 : decode prog_2_method_5_code 137 = .ok (.iadd, 1) := by decide +kernel
theorem d5_138 : decode prog_2_method_5_code 138 = .ok (.aload_n 0, 1) := by decide +kernel
theorem d5_139 : decode prog_2_method_5_code 139 = .ok (.getfield 23, 3) := by decide +kernel
theorem d5_142 : decode prog_2_method_5_code 142 = .ok (.iload 5, 2) := by decide +kernel
theorem d5_144 : decode prog_2_method_5_code 144 = .ok (.isub, 1) := by decide +kernel
theorem d5_145 : decode prog_2_method_5_code 145 = .ok (.invokestatic 56, 3) := by decide +kernel
theorem d5_148 : decode prog_2_method_5_code 148 = .ok (.new 9, 3) := by decide +kernel
theorem d5_151 : decode prog_2_method_5_code 151 = .ok (.dup, 1) := by decide +kernel
theorem d5_152 : decode prog_2_method_5_code 152 = .ok (.aload_n 3, 1) := by decide +kernel
theorem d5_153 : decode prog_2_method_5_code 153 = .ok (.lload_n 1, 1) := by decide +kernel
theorem d5_154 : decode prog_2_method_5_code 154 = .ok (.invokespecial 62, 3) := by decide +kernel
theorem d9_0 : decode prog_14_method_1_code 0 = .ok (.aload_n 0, 1) := by decide +kernel
theorem d9_1 : decode prog_14_method_1_code 1 = .ok (.invokespecial 1, 3) := by decide +kernel
abbrev lc22 (x0 : Addr) (x1 : Int64) : Array Slot := #[.val (.ref x0), .val .null, .val (.long x1), .second]
theorem d9_4 : decode prog_14_method_1_code 4 = .ok (.aload_n 0, 1) := by decide +kernel
theorem d9_5 : decode prog_14_method_1_code 5 = .ok (.aload_n 1, 1) := by decide +kernel
theorem d9_6 : decode prog_14_method_1_code 6 = .ok (.putfield 7, 3) := by decide +kernel
theorem d9_9 : decode prog_14_method_1_code 9 = .ok (.aload_n 0, 1) := by decide +kernel
theorem d9_10 : decode prog_14_method_1_code 10 = .ok (.lload_n 2, 1) := by decide +kernel
theorem d9_11 : decode prog_14_method_1_code 11 = .ok (.putfield 13, 3) := by decide +kernel
theorem d9_14 : decode prog_14_method_1_code 14 = .ok (.return_, 1) := by decide +kernel
theorem ef_6 (m : MethodId) (x0 : Addr) (x2 : Int64) : entryFrame m #[(.ref x0), .null, (.long x2)] 4 = mkF m 0 #[.val (.ref x0), .val .null, .val (.long x2), .second] [] := by first | (simp [entryFrame, mkF, argsToLocals, Value.category, maxLocals]; done) | rfl
theorem pn_com_example_srok_srok_engine_PriceLevel : plainName "com/example/srok/srok/engine/PriceLevel" = true := by first | (simp [plainName, overriddenIn]; done) | decide +kernel
theorem pd_5 : parseMethodDescriptor "(Ljava/math/BigDecimal;J)V" = some ⟨[(.object "java/math/BigDecimal"), .long], none⟩ := by decide +kernel
theorem d5_157 : decode prog_2_method_5_code 157 = .ok (.astore 6, 2) := by decide +kernel
abbrev lc23 (x0 : Addr) (x1 : Int64) (x2 : Int32) (x3 : Int32) (x4 : Addr) : Array Slot := #[.val (.ref x0), .val (.long x1), .second, .val .null, .val (.int x2), .val (.int x3), .val (.ref x4)]
theorem d5_159 : decode prog_2_method_5_code 159 = .ok (.aload_n 0, 1) := by decide +kernel
theorem d5_160 : decode prog_2_method_5_code 160 = .ok (.getfield 11, 3) := by decide +kernel
theorem d5_163 : decode prog_2_method_5_code 163 = .ok (.iload 5, 2) := by decide +kernel
theorem d5_165 : decode prog_2_method_5_code 165 = .ok (.aload 6, 2) := by decide +kernel
theorem d5_167 : decode prog_2_method_5_code 167 = .ok (.aastore, 1) := by decide +kernel
theorem d5_168 : decode prog_2_method_5_code 168 = .ok (.aload_n 0, 1) := by decide +kernel
theorem d5_169 : decode prog_2_method_5_code 169 = .ok (.getfield 15, 3) := by decide +kernel
theorem d5_172 : decode prog_2_method_5_code 172 = .ok (.iload 5, 2) := by decide +kernel
theorem d5_174 : decode prog_2_method_5_code 174 = .ok (.aload_n 0, 1) := by decide +kernel
theorem d5_175 : decode prog_2_method_5_code 175 = .ok (.lload_n 1, 1) := by decide +kernel
theorem d5_176 : decode prog_2_method_5_code 176 = .ok (.invokevirtual 65, 3) := by decide +kernel
theorem d5_179 : decode prog_2_method_5_code 179 = .ok (.lastore, 1) := by decide +kernel
theorem d5_180 : decode prog_2_method_5_code 180 = .ok (.aload_n 0, 1) := by decide +kernel
theorem d5_181 : decode prog_2_method_5_code 181 = .ok (.dup, 1) := by decide +kernel
theorem d5_182 : decode prog_2_method_5_code 182 = .ok (.getfield 23, 3) := by decide +kernel
theorem d5_185 : decode prog_2_method_5_code 185 = .ok (.iconst 1, 1) := by decide +kernel
theorem d5_186 : decode prog_2_method_5_code 186 = .ok (.iadd, 1) := by decide +kernel
theorem d5_187 : decode prog_2_method_5_code 187 = .ok (.putfield 23, 3) := by decide +kernel
theorem d5_190 : decode prog_2_method_5_code 190 = .ok (.aload 6, 2) := by decide +kernel
theorem d5_192 : decode prog_2_method_5_code 192 = .ok (.areturn, 1) := by decide +kernel
theorem ef_7 (m : MethodId) (x0 : Addr) (x1 : Int64) : entryFrame m #[(.ref x0), (.long x1), .null] 7 = mkF m 0 #[.val (.ref x0), .val (.long x1), .second, .val .null, .unset, .unset, .unset] [] := by first | (simp [entryFrame, mkF, argsToLocals, Value.category, maxLocals]; done) | rfl
theorem pd_6 : parseMethodDescriptor "(JLjava/math/BigDecimal;)Lcom/example/srok/srok/engine/PriceLevel;" = some ⟨[.long, (.object "java/math/BigDecimal")], some (.object "com/example/srok/srok/engine/PriceLevel")⟩ := by decide +kernel
abbrev lc24 (x0 : Int32) (x1 : Int64) (x2 : Int64) (x3 : Int64) (x4 : Int32) (x5 : Addr) (x6 : Int64) (x7 : Int64) (x8 : Int64) (x9 : Addr) (x10 : Addr) : Array Slot := #[.val (.int x0), .val (.long x1), .second, .val (.long x2), .second, .val (.long x3), .second, .val (.int x4), .val (.ref x5), .val (.long x6), .second, .val (.long x7), .second, .val (.long x8), .second, .val (.ref x9), .val (.ref x10), .unset, .unset, .unset, .unset, .unset, .unset, .unset]
theorem d4_11 : decode prog_2_method_3_code 11 = .ok (.aload_n 0, 1) := by decide +kernel
theorem d4_12 : decode prog_2_method_3_code 12 = .ok (.getfield 11, 3) := by decide +kernel
theorem d4_15 : decode prog_2_method_3_code 15 = .ok (.aload_n 0, 1) := by decide +kernel
theorem d4_16 : decode prog_2_method_3_code 16 = .ok (.getfield 23, 3) := by decide +kernel
theorem d4_19 : decode prog_2_method_3_code 19 = .ok (.iconst 1, 1) := by decide +kernel
theorem d4_20 : decode prog_2_method_3_code 20 = .ok (.isub, 1) := by decide +kernel
theorem d4_21 : decode prog_2_method_3_code 21 = .ok (.aaload, 1) := by decide +kernel
theorem d6_24 : decode prog_2_method_8_code 24 = .ok (.aload_n 0, 1) := by decide +kernel
theorem d6_25 : decode prog_2_method_8_code 25 = .ok (.getfield 15, 3) := by decide +kernel
theorem d6_28 : decode prog_2_method_8_code 28 = .ok (.iload 6, 2) := by decide +kernel
theorem d6_30 : decode prog_2_method_8_code 30 = .ok (.iload 7, 2) := by decide +kernel
theorem d6_32 : decode prog_2_method_8_code 32 = .ok (.isub, 1) := by decide +kernel
theorem d6_33 : decode prog_2_method_8_code 33 = .ok (.laload, 1) := by decide +kernel
theorem d6_34 : decode prog_2_method_8_code 34 = .ok (.lload 4, 2) := by decide +kernel
theorem d6_36 : decode prog_2_method_8_code 36 = .ok (.lcmp, 1) := by decide +kernel
theorem d6_37 : decode prog_2_method_8_code 37 = .ok (.ifCond .lt 19, 3) := by decide +kernel
theorem d8_9 : decode jdk_29_method_65_code 9 = .ok (.iload_n 1, 1) := by decide +kernel
theorem d6_40 : decode prog_2_method_8_code 40 = .ok (.iload 6, 2) := by decide +kernel
theorem d6_42 : decode prog_2_method_8_code 42 = .ok (.iload 7, 2) := by decide +kernel
theorem d6_44 : decode prog_2_method_8_code 44 = .ok (.isub, 1) := by decide +kernel
theorem d6_45 : decode prog_2_method_8_code 45 = .ok (.istore 6, 2) := by decide +kernel
theorem d6_47 : decode prog_2_method_8_code 47 = .ok (.iload 7, 2) := by decide +kernel
theorem d6_49 : decode prog_2_method_8_code 49 = .ok (.iconst 2, 1) := by decide +kernel
theorem d6_50 : decode prog_2_method_8_code 50 = .ok (.imul, 1) := by decide +kernel
theorem d6_51 : decode prog_2_method_8_code 51 = .ok (.istore 7, 2) := by decide +kernel
theorem d6_53 : decode prog_2_method_8_code 53 = .ok (.goto (-37), 3) := by decide +kernel
theorem d6_236 : decode prog_2_method_8_code 236 = .ok (.aload_n 0, 1) := by decide +kernel
theorem d6_237 : decode prog_2_method_8_code 237 = .ok (.getfield 15, 3) := by decide +kernel
theorem d6_240 : decode prog_2_method_8_code 240 = .ok (.iload 8, 2) := by decide +kernel
theorem d6_242 : decode prog_2_method_8_code 242 = .ok (.laload, 1) := by decide +kernel
theorem d6_243 : decode prog_2_method_8_code 243 = .ok (.lload 4, 2) := by decide +kernel
theorem d6_245 : decode prog_2_method_8_code 245 = .ok (.lcmp, 1) := by decide +kernel
theorem d6_246 : decode prog_2_method_8_code 246 = .ok (.ifCond .ne 29, 3) := by decide +kernel
theorem d6_249 : decode prog_2_method_8_code 249 = .ok (.iload 9, 2) := by decide +kernel
theorem d6_251 : decode prog_2_method_8_code 251 = .ok (.ifCond .ne 20, 3) := by decide +kernel
theorem d6_271 : decode prog_2_method_8_code 271 = .ok (.iconst 1, 1) := by decide +kernel
theorem d6_272 : decode prog_2_method_8_code 272 = .ok (.goto 4, 3) := by decide +kernel
theorem d6_283 : decode prog_2_method_8_code 283 = .ok (.iload 8, 2) := by decide +kernel
theorem d6_285 : decode prog_2_method_8_code 285 = .ok (.goto 7, 3) := by decide +kernel
abbrev lc25 (x0 : Int32) (x1 : Int64) (x2 : Int64) (x3 : Int64) (x4 : Int32) (x5 : Addr) (x6 : Int64) (x7 : Int64) (x8 : Int64) (x9 : Addr) (x10 : Addr) (x11 : Addr) : Array Slot := #[.val (.int x0), .val (.long x1), .second, .val (.long x2), .second, .val (.long x3), .second, .val (.int x4), .val (.ref x5), .val (.long x6), .second, .val (.long x7), .second, .val (.long x8), .second, .val (.ref x9), .val (.ref x10), .val (.ref x11), .unset, .unset, .unset, .unset, .unset, .unset]
theorem d10_0 : decode method_3_code 0 = .ok (.iload_n 0, 1) := by decide +kernel
theorem d10_1 : decode method_3_code 1 = .ok (.ifCond .eq 17, 3) := by decide +kernel
abbrev lc26 (x0 : Int32) (x1 : Int64) (x2 : Int64) : Array Slot := #[.val (.int x0), .val (.long x1), .second, .val (.long x2), .second]
theorem d10_4 : decode method_3_code 4 = .ok (.lload_n 1, 1) := by decide +kernel
theorem d10_5 : decode method_3_code 5 = .ok (.lload_n 3, 1) := by decide +kernel
theorem d10_6 : decode method_3_code 6 = .ok (.lcmp, 1) := by decide +kernel
theorem d10_7 : decode method_3_code 7 = .ok (.ifCond .le 7, 3) := by decide +kernel
theorem d10_10 : decode method_3_code 10 = .ok (.iconst 1, 1) := by decide +kernel
theorem d10_11 : decode method_3_code 11 = .ok (.goto 18, 3) := by decide +kernel
theorem d10_29 : decode method_3_code 29 = .ok (.ireturn, 1) := by decide +kernel
theorem ef_8 (m : MethodId) (x0 : Int32) (x1 : Int64) (x2 : Int64) : entryFrame m #[(.int x0), (.long x1), (.long x2)] 5 = mkF m 0 #[.val (.int x0), .val (.long x1), .second, .val (.long x2), .second] [] := by first | (simp [entryFrame, mkF, argsToLocals, Value.category, maxLocals]; done) | rfl
theorem pd_7 : parseMethodDescriptor "(ZJJ)Z" = some ⟨[.boolean, .long, .long], some .boolean⟩ := by decide +kernel
abbrev lc27 (x0 : Int32) (x1 : Int64) (x2 : Int64) (x3 : Int64) (x4 : Int32) (x5 : Addr) (x6 : Int64) (x7 : Int64) (x8 : Int64) (x9 : Addr) (x10 : Addr) (x11 : Addr) (x12 : Int32) : Array Slot := #[.val (.int x0), .val (.long x1), .second, .val (.long x2), .second, .val (.long x3), .second, .val (.int x4), .val (.ref x5), .val (.long x6), .second, .val (.long x7), .second, .val (.long x8), .second, .val (.ref x9), .val (.ref x10), .val (.ref x11), .val (.int x12), .unset, .unset, .unset, .unset, .unset]
abbrev lc28 (x0 : Int32) (x1 : Int64) (x2 : Int64) (x3 : Int64) (x4 : Int32) (x5 : Addr) (x6 : Int64) (x7 : Int64) (x8 : Int64) (x9 : Addr) (x10 : Addr) (x11 : Addr) (x12 : Int32) (x13 : Addr) : Array Slot := #[.val (.int x0), .val (.long x1), .second, .val (.long x2), .second, .val (.long x3), .second, .val (.int x4), .val (.ref x5), .val (.long x6), .second, .val (.long x7), .second, .val (.long x8), .second, .val (.ref x9), .val (.ref x10), .val (.ref x11), .val (.int x12), .val (.ref x13), .unset, .unset, .unset, .unset]
abbrev lc29 (x0 : Int32) (x1 : Int64) (x2 : Int64) (x3 : Int64) (x4 : Int32) (x5 : Addr) (x6 : Int64) (x7 : Int64) (x8 : Int64) (x9 : Addr) (x10 : Addr) (x11 : Addr) (x12 : Int32) (x13 : Addr) (x14 : Int64) : Array Slot := #[.val (.int x0), .val (.long x1), .second, .val (.long x2), .second, .val (.long x3), .second, .val (.int x4), .val (.ref x5), .val (.long x6), .second, .val (.long x7), .second, .val (.long x8), .second, .val (.ref x9), .val (.ref x10), .val (.ref x11), .val (.int x12), .val (.ref x13), .val (.long x14), .second, .unset, .unset]
theorem d6_135 : decode prog_2_method_8_code 135 = .ok (.aload_n 0, 1) := by decide +kernel
theorem d6_136 : decode prog_2_method_8_code 136 = .ok (.getfield 15, 3) := by decide +kernel
theorem d6_139 : decode prog_2_method_8_code 139 = .ok (.iload 8, 2) := by decide +kernel
theorem d6_141 : decode prog_2_method_8_code 141 = .ok (.laload, 1) := by decide +kernel
theorem d6_142 : decode prog_2_method_8_code 142 = .ok (.lload 4, 2) := by decide +kernel
theorem d6_144 : decode prog_2_method_8_code 144 = .ok (.lcmp, 1) := by decide +kernel
theorem d6_145 : decode prog_2_method_8_code 145 = .ok (.ifCond .ge 6, 3) := by decide +kernel
theorem d6_148 : decode prog_2_method_8_code 148 = .ok (.iinc 8 1, 3) := by decide +kernel
abbrev lc30 (x0 : Int32) (x1 : Int64) (x2 : Int64) (x3 : Int64) (x4 : Int32) (x5 : Addr) (x6 : Int64) (x7 : Int64) (x8 : Int64) (x9 : Addr) (x10 : Addr) (x11 : Addr) (x12 : Int32) (x13 : Addr) (x14 : Int64) (x15 : Addr) : Array Slot := #[.val (.int x0), .val (.long x1), .second, .val (.long x2), .second, .val (.long x3), .second, .val (.int x4), .val (.ref x5), .val (.long x6), .second, .val (.long x7), .second, .val (.long x8), .second, .val (.ref x9), .val (.ref x10), .val (.ref x11), .val (.int x12), .val (.ref x13), .val (.long x14), .second, .val (.ref x15), .unset]
abbrev lc31 (x0 : Int32) (x1 : Int64) (x2 : Int64) (x3 : Int64) (x4 : Int32) (x5 : Addr) (x6 : Int64) (x7 : Int64) (x8 : Int64) (x9 : Addr) (x10 : Addr) (x11 : Addr) (x12 : Int32) (x13 : Addr) (x14 : Int64) (x15 : Addr) (x16 : Addr) : Array Slot := #[.val (.int x0), .val (.long x1), .second, .val (.long x2), .second, .val (.long x3), .second, .val (.int x4), .val (.ref x5), .val (.long x6), .second, .val (.long x7), .second, .val (.long x8), .second, .val (.ref x9), .val (.ref x10), .val (.ref x11), .val (.int x12), .val (.ref x13), .val (.long x14), .second, .val (.ref x15), .val (.ref x16)]
theorem ef_9 (m : MethodId) (x0 : Int32) (x1 : Int64) (x2 : Int64) (x3 : Int64) : entryFrame m #[(.int x0), (.long x1), (.long x2), (.long x3)] maxLocals = mkF m 0 #[.val (.int x0), .val (.long x1), .second, .val (.long x2), .second, .val (.long x3), .second, .unset, .unset, .unset, .unset, .unset, .unset, .unset, .unset, .unset, .unset, .unset, .unset, .unset, .unset, .unset, .unset, .unset] [] := by first | (simp [entryFrame, mkF, argsToLocals, Value.category, maxLocals]; done) | rfl
theorem d5_13 : decode prog_2_method_5_code 13 = .ok (.aload_n 0, 1) := by decide +kernel
theorem d5_14 : decode prog_2_method_5_code 14 = .ok (.getfield 11, 3) := by decide +kernel
theorem d5_17 : decode prog_2_method_5_code 17 = .ok (.iload 4, 2) := by decide +kernel
theorem d5_19 : decode prog_2_method_5_code 19 = .ok (.aaload, 1) := by decide +kernel
theorem d5_20 : decode prog_2_method_5_code 20 = .ok (.invokevirtual 39, 3) := by decide +kernel
theorem d11_0 : decode prog_14_method_4_code 0 = .ok (.aload_n 0, 1) := by decide +kernel
theorem d11_1 : decode prog_14_method_4_code 1 = .ok (.getfield 17, 3) := by decide +kernel
theorem d11_4 : decode prog_14_method_4_code 4 = .ok (.ifnonnull 7, 3) := by decide +kernel
theorem d11_7 : decode prog_14_method_4_code 7 = .ok (.iconst 1, 1) := by decide +kernel
theorem d11_8 : decode prog_14_method_4_code 8 = .ok (.goto 4, 3) := by decide +kernel
theorem d11_12 : decode prog_14_method_4_code 12 = .ok (.ireturn, 1) := by decide +kernel
theorem pd_8 : parseMethodDescriptor "()Z" = some ⟨[], some .boolean⟩ := by decide +kernel
theorem d5_23 : decode prog_2_method_5_code 23 = .ok (.ifCond .eq 13, 3) := by decide +kernel
theorem d5_26 : decode prog_2_method_5_code 26 = .ok (.aload_n 0, 1) := by decide +kernel
theorem d5_27 : decode prog_2_method_5_code 27 = .ok (.dup, 1) := by decide +kernel
theorem d5_28 : decode prog_2_method_5_code 28 = .ok (.getfield 43, 3) := by decide +kernel
theorem d5_31 : decode prog_2_method_5_code 31 = .ok (.iconst 1, 1) := by decide +kernel
theorem d5_32 : decode prog_2_method_5_code 32 = .ok (.isub, 1) := by decide +kernel
theorem d5_33 : decode prog_2_method_5_code 33 = .ok (.putfield 43, 3) := by decide +kernel
theorem d5_36 : decode prog_2_method_5_code 36 = .ok (.aload_n 0, 1) := by decide +kernel
theorem d5_37 : decode prog_2_method_5_code 37 = .ok (.getfield 11, 3) := by decide +kernel
theorem d5_40 : decode prog_2_method_5_code 40 = .ok (.iload 4, 2) := by decide +kernel
theorem d5_42 : decode prog_2_method_5_code 42 = .ok (.aaload, 1) := by decide +kernel
theorem d5_43 : decode prog_2_method_5_code 43 = .ok (.areturn, 1) := by decide +kernel
theorem d10_14 : decode method_3_code 14 = .ok (.iconst 0, 1) := by decide +kernel
theorem d10_15 : decode method_3_code 15 = .ok (.goto 14, 3) := by decide +kernel
theorem d7_14 : decode prog_2_method_7_code 14 = .ok (.lload_n 1, 1) := by decide +kernel
theorem d7_15 : decode prog_2_method_7_code 15 = .ok (.ldc2_w 78, 3) := by decide +kernel
theorem d7_18 : decode prog_2_method_7_code 18 = .ok (.lxor, 1) := by decide +kernel
theorem d10_18 : decode method_3_code 18 = .ok (.lload_n 1, 1) := by decide +kernel
theorem d10_19 : decode method_3_code 19 = .ok (.lload_n 3, 1) := by decide +kernel
theorem d10_20 : decode method_3_code 20 = .ok (.lcmp, 1) := by decide +kernel
theorem d10_21 : decode method_3_code 21 = .ok (.ifCond .ge 7, 3) := by decide +kernel
theorem d10_24 : decode method_3_code 24 = .ok (.iconst 1, 1) := by decide +kernel
theorem d10_25 : decode method_3_code 25 = .ok (.goto 4, 3) := by decide +kernel
theorem d10_28 : decode method_3_code 28 = .ok (.iconst 0, 1) := by decide +kernel
abbrev zs0 : String := "com/example/srok/srok/engine/BookSideBestPinLaw"
abbrev zs1 : String := "com/example/srok/srok/engine/PriceLevel"
abbrev zs2 : String := "com/example/srok/srok/engine/BookSide"
abbrev zs3 : String := "[Lcom/example/srok/srok/engine/PriceLevel;"
abbrev zs4 : String := "Lcom/example/srok/srok/engine/Side;"
abbrev zs5 : String := "(Lcom/example/srok/srok/engine/Side;)V"
abbrev zs6 : String := "com/example/srok/srok/engine/Side"
abbrev zs7 : String := "()Lcom/example/srok/srok/engine/PriceLevel;"
abbrev zs8 : String := "java/lang/Math"
abbrev zs9 : String := "(JLjava/math/BigDecimal;)I"
abbrev zs10 : String := "Ljava/math/BigDecimal;"
abbrev zs11 : String := "Lcom/example/srok/srok/engine/Order;"
abbrev zs12 : String := "(Ljava/math/BigDecimal;J)V"
abbrev zs13 : String := "java/math/BigDecimal"
abbrev zs14 : String := "com/example/srok/srok/engine/Order"
abbrev zs15 : String := "(JLjava/math/BigDecimal;)Lcom/example/srok/srok/engine/PriceLevel;"
abbrev zm0 : MethodName := (⟨zs0, "inward", "(J)J"⟩ : MethodName)
abbrev zm1 : MethodName := (⟨zs2, "<init>", zs5⟩ : MethodName)
abbrev zm2 : MethodName := (⟨zs2, "best", zs7⟩ : MethodName)
abbrev zm3 : MethodName := (⟨zs2, "rank", "(J)J"⟩ : MethodName)
abbrev zm4 : MethodName := (⟨zs8, "max", "(II)I"⟩ : MethodName)
abbrev zm5 : MethodName := (⟨zs2, "indexOf", zs9⟩ : MethodName)
abbrev zm6 : MethodName := (⟨zs1, "<init>", zs12⟩ : MethodName)
abbrev zm7 : MethodName := (⟨zs2, "levelFor", zs15⟩ : MethodName)
abbrev zm8 : MethodName := (⟨zs0, "better", "(ZJJ)Z"⟩ : MethodName)
abbrev zm9 : MethodName := (⟨zs1, "isEmpty", "()Z"⟩ : MethodName)
def Q1_0 (Z : State) (q1 : Int64) (h0 : Heap) (n0 : Nat) (v : Option Value) (h : Heap) (L : List Loc) : Prop := v = some (.long (own_inward q1)) ∧ Fr n0 L ∧ h = h0
set_option maxRecDepth 65536 in
set_option maxHeartbeats 40000000 in
theorem rm1_0 (l : Launch) (Z : State) (a0 : Array Value) (hw : ∀ d ∈ tables_1, d.before a0 Z = true) (ws : List Jvm.Cond) (q1 : Int64) (h0 : Heap) (n0 : Nat) (Z0 : n0 ≤ h0.size) (hc2 : q1 = (-9223372036854775808 : Int64)) :
    MetFree l zm0 (head1 (Jvm.Cond.code zm0 method_2_code 2 (some .long) :: ws) ({ frames := 0, cells := 0, slots := 0, locals := 0 } : Room)) (fun a U => a = #[(.long q1)] ∧ Z.Warmed39 U.vm ∧ U.heap = h0) (fun _ _ _ _ _ => True) (fun _ U o U' => ∃ v L, o = .returned v ∧ Q1_0 Z q1 h0 n0 v U'.heap L ∧ FrameEnd U o U' L ({ frames := 0, cells := 0, slots := 0, locals := 0 } : Room).cells ({ frames := 0, cells := 0, slots := 0, locals := 0 } : Room).slots) := by
  refine MetFree.of_bodySF (plainFor_of_name pn_com_example_srok_srok_engine_BookSideBestPinLaw) hisR ?_
  intro p e s m args below meth c s₁ Bd hml0 hP hK
  obtain ⟨rfl, hZ, hh⟩ := hP
  have hx := Bd.exec
  have hby := Bd.bytes
  have hml : c.maxLocals = 2 := hml0
  have hown : s.vm.findClass zs0 = some m.cls := findClass_of_methodNamed Bd.named
  have hnm := (name_of_methodNamed Bd.named Bd.method).1
  have X0 : Stand p l e ({ frames := 0, cells := 0, slots := 0, locals := 0 } : Room) s m #[(.long q1)] below meth c s₁ [] 0 0 := Stand.of_body Bd
  have e0 : s₁.heap = h0 := by rw [← hh, Bd.state]; rfl
  have N0 := Fr.nil n0
  refine own_pre (g' := mkF m 0 (lc3 q1) []) (ef_0 m q1) ?_
  refine own_go (U' := s₁.setTop (mkF m 5 (lc3 q1) [(.int (lcmpW q1 (-9223372036854775808 : Int64)))])) (fun t k => olloadN X0 hx hby d1_0 rfl (X0.ldc2Long hx hown (mvT hZ (ww hw 7 rfl)) (g := (mkF m 1 (lc3 q1) [(.long q1)])) rfl (hb hby d1_1) _ (olcmp X0 hx hby d1_4 k))) ?_
  refine own_go (U' := s₁.setTop (mkF m 11 (lc3 q1) [(.long (-9223372036854775807))])) (fun t k => oifN X0 hx hby d1_5 (own_ll_ne_f hc2) (X0.ldc2Long hx hown (mvT hZ (ww hw 84 rfl)) (g := (mkF m 8 (lc3 q1) [])) rfl (hb hby d1_8) _ k)) ?_
  obtain ⟨fs, hr, hrun, hended, hW, hsame⟩ := X0.leave (v := some (.long (-9223372036854775807))) (fun h => by rw [Bd.returns] at h; cases h)
  refine own_out ⟨_, _, ?_, hrun, hended, _, _, rfl, ?_, ⟨_, rfl⟩, hW, hsame.mono (by decide) (by decide)⟩
  · exact retOut X0 hx Bd.returns rfl (Or.inr (Or.inl ⟨rfl, rfl, _, rfl⟩)) (hb hby d1_11) hr
  · show Q1_0 Z q1 h0 n0 _ s₁.heap _
    rw [e0]
    exact ⟨(by simp [own_inward, hc2]), N0, rfl⟩
def Q1_1 (Z : State) (q1 : Int64) (h0 : Heap) (n0 : Nat) (v : Option Value) (h : Heap) (L : List Loc) : Prop := v = some (.long (own_inward q1)) ∧ Fr n0 L ∧ h = h0
set_option maxRecDepth 65536 in
set_option maxHeartbeats 40000000 in
theorem rm1_1 (l : Launch) (Z : State) (a0 : Array Value) (hw : ∀ d ∈ tables_1, d.before a0 Z = true) (ws : List Jvm.Cond) (q1 : Int64) (h0 : Heap) (n0 : Nat) (Z0 : n0 ≤ h0.size) (hc2 : ¬ (q1 = (-9223372036854775808 : Int64))) (hc3 : q1 = (9223372036854775807 : Int64)) :
    MetFree l zm0 (head1 (Jvm.Cond.code zm0 method_2_code 2 (some .long) :: ws) ({ frames := 0, cells := 0, slots := 0, locals := 0 } : Room)) (fun a U => a = #[(.long q1)] ∧ Z.Warmed39 U.vm ∧ U.heap = h0) (fun _ _ _ _ _ => True) (fun _ U o U' => ∃ v L, o = .returned v ∧ Q1_1 Z q1 h0 n0 v U'.heap L ∧ FrameEnd U o U' L ({ frames := 0, cells := 0, slots := 0, locals := 0 } : Room).cells ({ frames := 0, cells := 0, slots := 0, locals := 0 } : Room).slots) := by
  refine MetFree.of_bodySF (plainFor_of_name pn_com_example_srok_srok_engine_BookSideBestPinLaw) hisR ?_
  intro p e s m args below meth c s₁ Bd hml0 hP hK
  obtain ⟨rfl, hZ, hh⟩ := hP
  have hx := Bd.exec
  have hby := Bd.bytes
  have hml : c.maxLocals = 2 := hml0
  have hown : s.vm.findClass zs0 = some m.cls := findClass_of_methodNamed Bd.named
  have hnm := (name_of_methodNamed Bd.named Bd.method).1
  have X0 : Stand p l e ({ frames := 0, cells := 0, slots := 0, locals := 0 } : Room) s m #[(.long q1)] below meth c s₁ [] 0 0 := Stand.of_body Bd
  have e0 : s₁.heap = h0 := by rw [← hh, Bd.state]; rfl
  have N0 := Fr.nil n0
  refine own_pre (g' := mkF m 0 (lc3 q1) []) (ef_0 m q1) ?_
  refine own_go (U' := s₁.setTop (mkF m 5 (lc3 q1) [(.int (lcmpW q1 (-9223372036854775808 : Int64)))])) (fun t k => olloadN X0 hx hby d1_0 rfl (X0.ldc2Long hx hown (mvT hZ (ww hw 7 rfl)) (g := (mkF m 1 (lc3 q1) [(.long q1)])) rfl (hb hby d1_1) _ (olcmp X0 hx hby d1_4 k))) ?_
  refine own_go (U' := s₁.setTop (mkF m 17 (lc3 q1) [(.int (lcmpW q1 (9223372036854775807 : Int64)))])) (fun t k => oifY (pc := 5) X0 hx hby d1_5 12 (own_ll_ne_t hc2) (by decide) (olloadN X0 hx hby d1_12 rfl (X0.ldc2Long hx hown (mvT hZ (ww hw 8 rfl)) (g := (mkF m 13 (lc3 q1) [(.long q1)])) rfl (hb hby d1_13) _ (olcmp X0 hx hby d1_16 k)))) ?_
  refine own_go (U' := s₁.setTop (mkF m 23 (lc3 q1) [(.long 9223372036854775806)])) (fun t k => oifN X0 hx hby d1_17 (own_ll_ne_f hc3) (X0.ldc2Long hx hown (mvT hZ (ww hw 85 rfl)) (g := (mkF m 20 (lc3 q1) [])) rfl (hb hby d1_20) _ k)) ?_
  obtain ⟨fs, hr, hrun, hended, hW, hsame⟩ := X0.leave (v := some (.long 9223372036854775806)) (fun h => by rw [Bd.returns] at h; cases h)
  refine own_out ⟨_, _, ?_, hrun, hended, _, _, rfl, ?_, ⟨_, rfl⟩, hW, hsame.mono (by decide) (by decide)⟩
  · exact retOut X0 hx Bd.returns rfl (Or.inr (Or.inl ⟨rfl, rfl, _, rfl⟩)) (hb hby d1_23) hr
  · show Q1_1 Z q1 h0 n0 _ s₁.heap _
    rw [e0]
    exact ⟨(by simp [own_inward, hc2, hc3]), N0, rfl⟩
def Q1_2 (Z : State) (q1 : Int64) (h0 : Heap) (n0 : Nat) (v : Option Value) (h : Heap) (L : List Loc) : Prop := v = some (.long (own_inward q1)) ∧ Fr n0 L ∧ h = h0
set_option maxRecDepth 65536 in
set_option maxHeartbeats 40000000 in
theorem rm1_2 (l : Launch) (Z : State) (a0 : Array Value) (hw : ∀ d ∈ tables_1, d.before a0 Z = true) (ws : List Jvm.Cond) (q1 : Int64) (h0 : Heap) (n0 : Nat) (Z0 : n0 ≤ h0.size) (hc2 : ¬ (q1 = (-9223372036854775808 : Int64))) (hc3 : ¬ (q1 = (9223372036854775807 : Int64))) :
    MetFree l zm0 (head1 (Jvm.Cond.code zm0 method_2_code 2 (some .long) :: ws) ({ frames := 0, cells := 0, slots := 0, locals := 0 } : Room)) (fun a U => a = #[(.long q1)] ∧ Z.Warmed39 U.vm ∧ U.heap = h0) (fun _ _ _ _ _ => True) (fun _ U o U' => ∃ v L, o = .returned v ∧ Q1_2 Z q1 h0 n0 v U'.heap L ∧ FrameEnd U o U' L ({ frames := 0, cells := 0, slots := 0, locals := 0 } : Room).cells ({ frames := 0, cells := 0, slots := 0, locals := 0 } : Room).slots) := by
  refine MetFree.of_bodySF (plainFor_of_name pn_com_example_srok_srok_engine_BookSideBestPinLaw) hisR ?_
  intro p e s m args below meth c s₁ Bd hml0 hP hK
  obtain ⟨rfl, hZ, hh⟩ := hP
  have hx := Bd.exec
  have hby := Bd.bytes
  have hml : c.maxLocals = 2 := hml0
  have hown : s.vm.findClass zs0 = some m.cls := findClass_of_methodNamed Bd.named
  have hnm := (name_of_methodNamed Bd.named Bd.method).1
  have X0 : Stand p l e ({ frames := 0, cells := 0, slots := 0, locals := 0 } : Room) s m #[(.long q1)] below meth c s₁ [] 0 0 := Stand.of_body Bd
  have e0 : s₁.heap = h0 := by rw [← hh, Bd.state]; rfl
  have N0 := Fr.nil n0
  refine own_pre (g' := mkF m 0 (lc3 q1) []) (ef_0 m q1) ?_
  refine own_go (U' := s₁.setTop (mkF m 5 (lc3 q1) [(.int (lcmpW q1 (-9223372036854775808 : Int64)))])) (fun t k => olloadN X0 hx hby d1_0 rfl (X0.ldc2Long hx hown (mvT hZ (ww hw 7 rfl)) (g := (mkF m 1 (lc3 q1) [(.long q1)])) rfl (hb hby d1_1) _ (olcmp X0 hx hby d1_4 k))) ?_
  refine own_go (U' := s₁.setTop (mkF m 17 (lc3 q1) [(.int (lcmpW q1 (9223372036854775807 : Int64)))])) (fun t k => oifY (pc := 5) X0 hx hby d1_5 12 (own_ll_ne_t hc2) (by decide) (olloadN X0 hx hby d1_12 rfl (X0.ldc2Long hx hown (mvT hZ (ww hw 8 rfl)) (g := (mkF m 13 (lc3 q1) [(.long q1)])) rfl (hb hby d1_13) _ (olcmp X0 hx hby d1_16 k)))) ?_
  refine own_go (U' := s₁.setTop (mkF m 25 (lc3 q1) [(.long q1)])) (fun t k => oifY (pc := 17) X0 hx hby d1_17 24 (own_ll_ne_t hc3) (by decide) (olloadN X0 hx hby d1_24 rfl k)) ?_
  obtain ⟨fs, hr, hrun, hended, hW, hsame⟩ := X0.leave (v := some (.long q1)) (fun h => by rw [Bd.returns] at h; cases h)
  refine own_out ⟨_, _, ?_, hrun, hended, _, _, rfl, ?_, ⟨_, rfl⟩, hW, hsame.mono (by decide) (by decide)⟩
  · exact retOut X0 hx Bd.returns rfl (Or.inr (Or.inl ⟨rfl, rfl, _, rfl⟩)) (hb hby d1_25) hr
  · show Q1_2 Z q1 h0 n0 _ s₁.heap _
    rw [e0]
    exact ⟨(by simp [own_inward, hc2, hc3]), N0, rfl⟩
def Qmg1_3 (Z : State) (q1 : Int64) (h0 : Heap) (n0 : Nat) (v : Option Value) (h : Heap) (L : List Loc) : Prop := v = some (.long (own_inward q1)) ∧ Fr n0 L ∧ h = h0
theorem mg1_3 (l : Launch) (Z : State) (a0 : Array Value) (hw : ∀ d ∈ tables_1, d.before a0 Z = true) (ws : List Jvm.Cond) (q1 : Int64) (h0 : Heap) (n0 : Nat) (Z0 : n0 ≤ h0.size) :
    MetFree l zm0 (head1 (Jvm.Cond.code zm0 method_2_code 2 (some .long) :: ws) ({ frames := 0, cells := 0, slots := 0, locals := 0 } : Room)) (fun a U => a = #[(.long q1)] ∧ Z.Warmed39 U.vm ∧ U.heap = h0) (fun _ _ _ _ _ => True) (fun _ U o U' => ∃ v L, o = .returned v ∧ Qmg1_3 Z q1 h0 n0 v U'.heap L ∧ FrameEnd U o U' L ({ frames := 0, cells := 0, slots := 0, locals := 0 } : Room).cells ({ frames := 0, cells := 0, slots := 0, locals := 0 } : Room).slots) := by
  by_cases hm1 : q1 = (-9223372036854775808 : Int64)
  · exact rm1_0 l Z a0 hw ws q1 h0 n0 Z0 hm1
  · by_cases hm2 : q1 = (9223372036854775807 : Int64)
    · exact rm1_1 l Z a0 hw ws q1 h0 n0 Z0 hm1 hm2
    · exact rm1_2 l Z a0 hw ws q1 h0 n0 Z0 hm1 hm2
def Q2_4 (Z : State) (a1 : Addr) (a2 : Addr) (h0 : Heap) (n0 : Nat) (v : Option Value) (h : Heap) (L : List Loc) : Prop := ∃ b4 : Addr, ∃ b18 : Addr, ∃ k4 : ClassId, ∃ k18 : ClassId, v = none ∧ Fr n0 L ∧ Keep h0 h [a1] ∧ h0.size ≤ b4 ∧ h0.size ≤ b18 ∧ b4 ≠ b18 ∧ Ovr Z k4 zs1 ∧ Fld Z h a1 zs2 "levels" zs3 (.ref b4) ∧ Fld Z h a1 zs2 "ranks" "[J" (.ref b18) ∧ Fld Z h a1 zs2 "side" zs4 (.ref a2) ∧ Fld Z h a1 zs2 "count" "I" (.int 0) ∧ Fld Z h a1 zs2 "emptyLevels" "I" (.int 0) ∧ Exa Z h b4 zs3 ∧ Arv Z h b4 k4 (.object zs1) (16 : Int32) [] .null ∧ Exa Z h b18 "[J" ∧ Arv Z h b18 k18 .long (16 : Int32) [] (.long (0 : Int64))
set_option maxRecDepth 65536 in
set_option maxHeartbeats 40000000 in
theorem rm2_4 (l : Launch) (Z : State) (a0 : Array Value) (hw : ∀ d ∈ tables_1, d.before a0 Z = true) (ws : List Jvm.Cond) (a1 : Addr) (a2 : Addr) (h0 : Heap) (n0 : Nat) (Z0 : n0 ≤ h0.size) (F6 : Fld Z h0 a1 zs2 "levels" zs3 .null) (F7 : Fld Z h0 a1 zs2 "ranks" "[J" .null) (F8 : Fld Z h0 a1 zs2 "side" zs4 .null) (F9 : Fld Z h0 a1 zs2 "count" "I" (.int 0)) (F10 : Fld Z h0 a1 zs2 "emptyLevels" "I" (.int 0)) (F12 : Exa Z h0 a1 zs2) (g15 : n0 ≤ a1) :
    MetFree l zm1 (head1 (Jvm.Cond.code zm1 prog_2_method_1_code 2 none :: ws) ({ frames := 1, cells := 2, slots := 32, locals := 12 } : Room)) (fun a U => a = #[(.ref a1), (.ref a2)] ∧ Z.Warmed39 U.vm ∧ U.heap = h0) (fun _ _ _ _ _ => True) (fun _ U o U' => ∃ v L, o = .returned v ∧ Q2_4 Z a1 a2 h0 n0 v U'.heap L ∧ FrameEnd U o U' L ({ frames := 1, cells := 2, slots := 32, locals := 12 } : Room).cells ({ frames := 1, cells := 2, slots := 32, locals := 12 } : Room).slots) := by
  refine MetFree.of_bodySF (plainFor_of_name pn_com_example_srok_srok_engine_BookSide) hisR ?_
  intro p e s m args below meth c s₁ Bd hml0 hP hK
  obtain ⟨rfl, hZ, hh⟩ := hP
  have hx := Bd.exec
  have hby := Bd.bytes
  have hml : c.maxLocals = 2 := hml0
  have hown : s.vm.findClass zs2 = some m.cls := findClass_of_methodNamed Bd.named
  have hnm := (name_of_methodNamed Bd.named Bd.method).1
  have X0 : Stand p l e ({ frames := 1, cells := 2, slots := 32, locals := 12 } : Room) s m #[(.ref a1), (.ref a2)] below meth c s₁ [] 0 0 := Stand.of_body Bd
  have e0 : s₁.heap = h0 := by rw [← hh, Bd.state]; rfl
  have N0 := Fr.nil n0
  refine own_pre (g' := mkF m 0 (lc7 a1 a2) []) (ef_1 m a1 a2) ?_
  obtain ⟨T3, X3, e3, st3⟩ := initO X0 hx hZ hown (ww hw 15 rfl) (ww hw 16 rfl) (ww hw 17 rfl) e0 (g := (mkF m 1 (lc7 a1 a2) [(.ref a1)])) rfl (by rw [hml]; rfl) rfl (hb hby d2_1) (by decide) (W := 0) (by show 2 * 0 + _ ≤ _; exact Nat.le_of_eq rfl) (by decide)
  obtain ⟨T4, h4, k4, X4, e4, E4, A4, B4, O4, st4⟩ := newRE X3 hx hZ hown (ww hw 18 rfl) (ww hw 19 rfl) e3 (g := (mkF m 7 (lc7 a1 a2) [(.int 16), (.ref a1)])) rfl (hb hby d2_7) rfl (by decide) (cap := 16) (by decide) (by decide) (by decide) (by decide) (ad := zs3) (by decide)
  obtain ⟨b4, g4⟩ : ∃ z, z = h0.size := ⟨_, rfl⟩
  rw [← g4] at A4 B4 st4
  have f5 : Arv Z h4 b4 k4 (.object zs1) (16 : Int32) [] .null := Arv.new A4 (by decide)
  have f11 : Fld Z h4 a1 zs2 "levels" zs3 .null := (Fld.ext E4 F6)
  have f13 : Exa Z h4 a1 zs2 := (Exa.ext E4 F12)
  obtain ⟨T14, h14, X14, e14, W14, st14⟩ := putF X4 hx hZ hown (host := "") (Or.inl (ww hw 20 rfl)) Via.refl e4 f11 f13 (Or.inl (ww hw 21 rfl)) (ww hw 10 rfl) (ty := (.array (.object zs1))) (by decide) rfl rfl (g := (mkF m 10 (lc7 a1 a2) [(.ref b4), (.ref a1)])) rfl rfl (hb hby d2_10)
  have N16 := Fr.snoc X14 N0 g15
  have f17 : Fld Z h14 a1 zs2 "levels" zs3 (.ref b4) := Fld.same W14 f11
  obtain ⟨T18, h18, k18, X18, e18, E18, A18, B18, st18⟩ := newPE X14 hx hZ (ww hw 22 rfl) e14 (g := (mkF m 16 (lc7 a1 a2) [(.int 16), (.ref a1)])) rfl (hb hby d2_16) rfl (by decide) (cap := 16) (by decide) (by decide) (by decide) (by decide) (ad := "[J") (by decide)
  obtain ⟨b18, g18⟩ : ∃ z, z = h14.size := ⟨_, rfl⟩
  rw [← g18] at A18 B18 st18
  have f19 : Arv Z h18 b18 k18 .long (16 : Int32) [] (.long (0 : Int64)) := Arv.new A18 (by decide)
  have f20 : Fld Z h18 a1 zs2 "ranks" "[J" .null := (Fld.ext E18 (Fld.other W14 (Fld.ext E4 F7) (Or.inr (slot_ne (Or.inl (ww hw 24 rfl)) (Or.inl (ww hw 21 rfl)) (by decide) (t := (.array .long)) (t' := (.array (.object zs1))) (by decide) (by decide)))))
  have f21 : Exa Z h18 a1 zs2 := (Exa.ext E18 (Exa.wr W14 f13))
  obtain ⟨T22, h22, X22, e22, W22, st22⟩ := putF X18 hx hZ hown (host := "") (Or.inl (ww hw 23 rfl)) Via.refl e18 f20 f21 (Or.inl (ww hw 24 rfl)) (ww hw 10 rfl) (ty := (.array .long)) (by decide) rfl rfl (g := (mkF m 18 (lc7 a1 a2) [(.ref b18), (.ref a1)])) rfl rfl (hb hby d2_18)
  have N23 := Fr.snoc X22 N16 g15
  have f24 : Fld Z h22 a1 zs2 "ranks" "[J" (.ref b18) := Fld.same W22 f20
  have f25 : Fld Z h22 a1 zs2 "side" zs4 .null := (Fld.other W22 (Fld.ext E18 (Fld.other W14 (Fld.ext E4 F8) (Or.inr (slot_ne (Or.inr (ww hw 26 rfl)) (Or.inl (ww hw 21 rfl)) (by decide) (t := (.object zs6)) (t' := (.array (.object zs1))) (by decide) (by decide))))) (Or.inr (slot_ne (Or.inr (ww hw 26 rfl)) (Or.inl (ww hw 24 rfl)) (by decide) (t := (.object zs6)) (t' := (.array .long)) (by decide) (by decide))))
  have f26 : Exa Z h22 a1 zs2 := (Exa.wr W22 f21)
  obtain ⟨T27, h27, X27, e27, W27, st27⟩ := putF X22 hx hZ hown (host := "") (Or.inl (ww hw 25 rfl)) Via.refl e22 f25 f26 (Or.inr ⟨(ww hw 26 rfl), rfl, hnm⟩) (ww hw 10 rfl) (ty := (.object zs6)) (by decide) rfl rfl (g := (mkF m 23 (lc7 a1 a2) [(.ref a2), (.ref a1)])) rfl rfl (hb hby d2_23)
  have N28 := Fr.snoc X27 N23 g15
  have f29 : Fld Z h27 a1 zs2 "side" zs4 (.ref a2) := Fld.same W27 f25
  refine own_go (U' := T27.setTop (mkF m 26 (lc7 a1 a2) [])) (fun t k => oaloadN X0 hx hby d2_0 rfl rfl (st3 _ (oaloadN X3 hx hby d2_4 rfl rfl (obipush X3 hx hby d2_5 (st4 _ (st14 _ (oaloadN X14 hx hby d2_13 rfl rfl (obipush X14 hx hby d2_14 (st18 _ (st22 _ (oaloadN X22 hx hby d2_21 rfl rfl (oaloadN X22 hx hby d2_22 rfl rfl (st27 _ k))))))))))))) ?_
  have f30 : Fld Z h27 a1 zs2 "levels" zs3 (.ref b4) := (Fld.other W27 (Fld.other W22 (Fld.ext E18 f17) (Or.inr (slot_ne (Or.inl (ww hw 21 rfl)) (Or.inl (ww hw 24 rfl)) (by decide) (t := (.array (.object zs1))) (t' := (.array .long)) (by decide) (by decide)))) (Or.inr (slot_ne (Or.inl (ww hw 21 rfl)) (Or.inr (ww hw 26 rfl)) (by decide) (t := (.array (.object zs1))) (t' := (.object zs6)) (by decide) (by decide))))
  have f31 : Fld Z h27 a1 zs2 "ranks" "[J" (.ref b18) := (Fld.other W27 f24 (Or.inr (slot_ne (Or.inl (ww hw 24 rfl)) (Or.inr (ww hw 26 rfl)) (by decide) (t := (.array .long)) (t' := (.object zs6)) (by decide) (by decide))))
  have f32 : Fld Z h27 a1 zs2 "count" "I" (.int 0) := (Fld.other W27 (Fld.other W22 (Fld.ext E18 (Fld.other W14 (Fld.ext E4 F9) (Or.inr (slot_ne (Or.inl (ww hw 33 rfl)) (Or.inl (ww hw 21 rfl)) (by decide) (t := .int) (t' := (.array (.object zs1))) (by decide) (by decide))))) (Or.inr (slot_ne (Or.inl (ww hw 33 rfl)) (Or.inl (ww hw 24 rfl)) (by decide) (t := .int) (t' := (.array .long)) (by decide) (by decide)))) (Or.inr (slot_ne (Or.inl (ww hw 33 rfl)) (Or.inr (ww hw 26 rfl)) (by decide) (t := .int) (t' := (.object zs6)) (by decide) (by decide))))
  have f33 : Fld Z h27 a1 zs2 "emptyLevels" "I" (.int 0) := (Fld.other W27 (Fld.other W22 (Fld.ext E18 (Fld.other W14 (Fld.ext E4 F10) (Or.inr (slot_ne (Or.inl (ww hw 80 rfl)) (Or.inl (ww hw 21 rfl)) (by decide) (t := .int) (t' := (.array (.object zs1))) (by decide) (by decide))))) (Or.inr (slot_ne (Or.inl (ww hw 80 rfl)) (Or.inl (ww hw 24 rfl)) (by decide) (t := .int) (t' := (.array .long)) (by decide) (by decide)))) (Or.inr (slot_ne (Or.inl (ww hw 80 rfl)) (Or.inr (ww hw 26 rfl)) (by decide) (t := .int) (t' := (.object zs6)) (by decide) (by decide))))
  have f34 : Exa Z h27 b4 zs3 := (Exa.wr W27 (Exa.wr W22 (Exa.ext E18 (Exa.wr W14 B4))))
  have ne35 : a1 ≠ b4 := Nat.ne_of_lt (Nat.lt_of_lt_of_le (F6.lt) (Nat.le_of_eq g4.symm))
  have f36 : Arv Z h27 b4 k4 (.object zs1) (16 : Int32) [] .null := ((((f5.other W14 (Ne.symm ne35)).ext E18).other W22 (Ne.symm ne35)).other W27 (Ne.symm ne35))
  have f37 : Exa Z h27 b18 "[J" := (Exa.wr W27 (Exa.wr W22 B18))
  have ne38 : a1 ≠ b18 := Nat.ne_of_lt (Nat.lt_of_lt_of_le (Nat.lt_of_lt_of_le (Nat.lt_of_lt_of_le (F6.lt) E4.1) (Keep.of_wr W14).1) (Nat.le_of_eq g18.symm))
  have f39 : Arv Z h27 b18 k18 .long (16 : Int32) [] (.long (0 : Int64)) := ((f19.other W22 (Ne.symm ne38)).other W27 (Ne.symm ne38))
  have ne40 : b4 ≠ b18 := Nat.ne_of_lt (Nat.lt_of_lt_of_le (Nat.lt_of_lt_of_le (B4.lt) (Keep.of_wr W14).1) (Nat.le_of_eq g18.symm))
  obtain ⟨fs, hr, hrun, hended, hW, hsame⟩ := X27.leave (v := none) (fun _ => rfl)
  refine own_out ⟨_, _, ?_, hrun, hended, _, _, rfl, ?_, ⟨_, rfl⟩, hW, hsame.mono (by decide) (by decide)⟩
  · exact X27.returnOut hx Bd.returns (hb hby d2_26) hr
  · show Q2_4 Z a1 a2 h0 n0 _ T27.heap _
    rw [e27]
    exact ⟨b4, b18, k4, k18, rfl, N28, ((((((Keep.refl h0 [a1]).ext E4).wr W14 (Or.inl (List.mem_of_getElem? (i := 0) rfl))).ext E18).wr W22 (Or.inl (List.mem_of_getElem? (i := 0) rfl))).wr W27 (Or.inl (List.mem_of_getElem? (i := 0) rfl))), (Nat.le_of_eq g4.symm), (Nat.le_trans E4.1 (Nat.le_trans (Keep.of_wr W14).1 (Nat.le_of_eq g18.symm))), ne40, O4, f30, f31, f29, f32, f33, f34, f36, f37, f39⟩
def Q4_5 (Z : State) (a1 : Addr) (h0 : Heap) (n0 : Nat) (v : Option Value) (h : Heap) (L : List Loc) : Prop := v = some .null ∧ Fr n0 L ∧ h = h0
set_option maxRecDepth 65536 in
set_option maxHeartbeats 40000000 in
theorem rm4_5 (l : Launch) (Z : State) (a0 : Array Value) (hw : ∀ d ∈ tables_1, d.before a0 Z = true) (ws : List Jvm.Cond) (a1 : Addr) (h0 : Heap) (n0 : Nat) (Z0 : n0 ≤ h0.size) (F2 : Fld Z h0 a1 zs2 "count" "I" (.int 0)) :
    MetFree l zm2 (head1 (Jvm.Cond.code zm2 prog_2_method_3_code 1 (some (.object zs1)) :: ws) ({ frames := 0, cells := 0, slots := 0, locals := 0 } : Room)) (fun a U => a = #[(.ref a1)] ∧ Z.Warmed39 U.vm ∧ U.heap = h0) (fun _ _ _ _ _ => True) (fun _ U o U' => ∃ v L, o = .returned v ∧ Q4_5 Z a1 h0 n0 v U'.heap L ∧ FrameEnd U o U' L ({ frames := 0, cells := 0, slots := 0, locals := 0 } : Room).cells ({ frames := 0, cells := 0, slots := 0, locals := 0 } : Room).slots) := by
  refine MetFree.of_bodySF (plainFor_of_name pn_com_example_srok_srok_engine_BookSide) hisR ?_
  intro p e s m args below meth c s₁ Bd hml0 hP hK
  obtain ⟨rfl, hZ, hh⟩ := hP
  have hx := Bd.exec
  have hby := Bd.bytes
  have hml : c.maxLocals = 1 := hml0
  have hown : s.vm.findClass zs2 = some m.cls := findClass_of_methodNamed Bd.named
  have hnm := (name_of_methodNamed Bd.named Bd.method).1
  have X0 : Stand p l e ({ frames := 0, cells := 0, slots := 0, locals := 0 } : Room) s m #[(.ref a1)] below meth c s₁ [] 0 0 := Stand.of_body Bd
  have e0 : s₁.heap = h0 := by rw [← hh, Bd.state]; rfl
  have N0 := Fr.nil n0
  refine own_pre (g' := mkF m 0 (lc9 a1) []) (ef_2 m a1) ?_
  obtain ⟨T3, X3, e3, st3⟩ := getF X0 hx hZ hown (host := "") (Or.inl (ww hw 32 rfl)) Via.refl e0 F2 (g := (mkF m 1 (lc9 a1) [(.ref a1)])) rfl rfl (hb hby d4_1)
  refine own_go (U' := T3.setTop (mkF m 4 (lc9 a1) [(.int 0)])) (fun t k => oaloadN X0 hx hby d4_0 rfl rfl (st3 _ k)) ?_
  refine own_go (U' := T3.setTop (mkF m 22 (lc9 a1) [.null])) (fun t k => oifN X3 hx hby d4_4 (by decide) (onull X3 hx hby d4_7 (ogoto (pc := 8) X3 hx hby d4_8 22 (by decide) k))) ?_
  obtain ⟨fs, hr, hrun, hended, hW, hsame⟩ := X3.leave (v := some .null) (fun h => by rw [Bd.returns] at h; cases h)
  refine own_out ⟨_, _, ?_, hrun, hended, _, _, rfl, ?_, ⟨_, rfl⟩, hW, hsame.mono (by decide) (by decide)⟩
  · exact retOut X3 hx Bd.returns rfl (Or.inr (Or.inr (Or.inr (Or.inr ⟨rfl, rfl, rfl⟩)))) (hb hby d4_22) hr
  · show Q4_5 Z a1 h0 n0 _ T3.heap _
    rw [e3]
    exact ⟨rfl, N0, rfl⟩
def Q7_6 (Z : State) (a1 : Addr) (q2 : Int64) (a3 : Addr) (h0 : Heap) (n0 : Nat) (v : Option Value) (h : Heap) (L : List Loc) : Prop := v = some (.long q2) ∧ Fr n0 L ∧ h = h0
set_option maxRecDepth 65536 in
set_option maxHeartbeats 40000000 in
theorem rm7_6 (l : Launch) (Z : State) (a0 : Array Value) (hw : ∀ d ∈ tables_1, d.before a0 Z = true) (ws : List Jvm.Cond) (a1 : Addr) (q2 : Int64) (a3 : Addr) (h0 : Heap) (n0 : Nat) (Z0 : n0 ≤ h0.size) (F4 : Fld Z h0 a1 zs2 "side" zs4 (.ref a3)) (F6 : Sta Z h0 zs6 "BUY" zs4 (.ref a3)) :
    MetFree l zm3 (head1 (Jvm.Cond.code zm3 prog_2_method_7_code 3 (some .long) :: ws) ({ frames := 0, cells := 0, slots := 0, locals := 0 } : Room)) (fun a U => a = #[(.ref a1), (.long q2)] ∧ Z.Warmed39 U.vm ∧ U.heap = h0) (fun _ _ _ _ _ => True) (fun _ U o U' => ∃ v L, o = .returned v ∧ Q7_6 Z a1 q2 a3 h0 n0 v U'.heap L ∧ FrameEnd U o U' L ({ frames := 0, cells := 0, slots := 0, locals := 0 } : Room).cells ({ frames := 0, cells := 0, slots := 0, locals := 0 } : Room).slots) := by
  refine MetFree.of_bodySF (plainFor_of_name pn_com_example_srok_srok_engine_BookSide) hisR ?_
  intro p e s m args below meth c s₁ Bd hml0 hP hK
  obtain ⟨rfl, hZ, hh⟩ := hP
  have hx := Bd.exec
  have hby := Bd.bytes
  have hml : c.maxLocals = 3 := hml0
  have hown : s.vm.findClass zs2 = some m.cls := findClass_of_methodNamed Bd.named
  have hnm := (name_of_methodNamed Bd.named Bd.method).1
  have X0 : Stand p l e ({ frames := 0, cells := 0, slots := 0, locals := 0 } : Room) s m #[(.ref a1), (.long q2)] below meth c s₁ [] 0 0 := Stand.of_body Bd
  have e0 : s₁.heap = h0 := by rw [← hh, Bd.state]; rfl
  have N0 := Fr.nil n0
  refine own_pre (g' := mkF m 0 (lc12 a1 q2) []) (ef_3 m a1 q2) ?_
  obtain ⟨T5, X5, e5, st5⟩ := getF X0 hx hZ hown (host := "") (Or.inl (ww hw 25 rfl)) Via.refl e0 F4 (g := (mkF m 1 (lc12 a1 q2) [(.ref a1)])) rfl rfl (hb hby d7_1)
  obtain ⟨T7, X7, e7, st7⟩ := getS2 X5 hx hZ hown (host := "") (Or.inl (ww hw 47 rfl)) Via.refl e5 F6 (g := (mkF m 4 (lc12 a1 q2) [(.ref a3)])) rfl (hb hby d7_4)
  refine own_go (U' := T7.setTop (mkF m 19 (lc12 a1 q2) [(.long q2)])) (fun t k => oaloadN X0 hx hby d7_0 rfl rfl (st5 _ (st7 _ (oacmp (pc := 7) X7 hx hby d7_7 10 (same := true) rfl rfl (decide_eq_true rfl) (by decide) (olloadN X7 hx hby d7_10 rfl (ogoto (pc := 11) X7 hx hby d7_11 19 (by decide) k)))))) ?_
  obtain ⟨fs, hr, hrun, hended, hW, hsame⟩ := X7.leave (v := some (.long q2)) (fun h => by rw [Bd.returns] at h; cases h)
  refine own_out ⟨_, _, ?_, hrun, hended, _, _, rfl, ?_, ⟨_, rfl⟩, hW, hsame.mono (by decide) (by decide)⟩
  · exact retOut X7 hx Bd.returns rfl (Or.inr (Or.inl ⟨rfl, rfl, _, rfl⟩)) (hb hby d7_19) hr
  · show Q7_6 Z a1 q2 a3 h0 n0 _ T7.heap _
    rw [e7]
    exact ⟨rfl, N0, rfl⟩
def Q8_7 (Z : State)  (h0 : Heap) (n0 : Nat) (v : Option Value) (h : Heap) (L : List Loc) : Prop := v = some (.int 0) ∧ Fr n0 L ∧ h = h0
set_option maxRecDepth 65536 in
set_option maxHeartbeats 40000000 in
theorem rm8_7 (l : Launch) (Z : State) (a0 : Array Value) (hw : ∀ d ∈ tables_1, d.before a0 Z = true) (ws : List Jvm.Cond)  (h0 : Heap) (n0 : Nat) (Z0 : n0 ≤ h0.size) :
    MetFree l zm4 (head1 (Jvm.Cond.code zm4 jdk_29_method_65_code 2 (some .int) :: ws) ({ frames := 0, cells := 0, slots := 0, locals := 0 } : Room)) (fun a U => a = #[(.int 0), (.int 0)] ∧ Z.Warmed39 U.vm ∧ U.heap = h0) (fun _ _ _ _ _ => True) (fun _ U o U' => ∃ v L, o = .returned v ∧ Q8_7 Z  h0 n0 v U'.heap L ∧ FrameEnd U o U' L ({ frames := 0, cells := 0, slots := 0, locals := 0 } : Room).cells ({ frames := 0, cells := 0, slots := 0, locals := 0 } : Room).slots) := by
  refine MetFree.of_bodySF (Jvm.Free.JP.mathPlain rfl (by decide +kernel)) hisR ?_
  intro p e s m args below meth c s₁ Bd hml0 hP hK
  obtain ⟨rfl, hZ, hh⟩ := hP
  have hx := Bd.exec
  have hby := Bd.bytes
  have hml : c.maxLocals = 2 := hml0
  have hown : s.vm.findClass zs8 = some m.cls := findClass_of_methodNamed Bd.named
  have hnm := (name_of_methodNamed Bd.named Bd.method).1
  have X0 : Stand p l e ({ frames := 0, cells := 0, slots := 0, locals := 0 } : Room) s m #[(.int 0), (.int 0)] below meth c s₁ [] 0 0 := Stand.of_body Bd
  have e0 : s₁.heap = h0 := by rw [← hh, Bd.state]; rfl
  have N0 := Fr.nil n0
  refine own_pre (g' := mkF m 0 (lc16 0 0) []) (ef_4 m (0 : Int32) (0 : Int32)) ?_
  refine own_go (U' := s₁.setTop (mkF m 2 (lc16 0 0) [(.int 0), (.int 0)])) (fun t k => oiloadN X0 hx hby d8_0 rfl (oiloadN X0 hx hby d8_1 rfl k)) ?_
  refine own_go (U' := s₁.setTop (mkF m 10 (lc16 0 0) [(.int 0)])) (fun t k => oicN X0 hx hby d8_2 (by decide) (oiloadN X0 hx hby d8_5 rfl (ogoto (pc := 6) X0 hx hby d8_6 10 (by decide) k))) ?_
  obtain ⟨fs, hr, hrun, hended, hW, hsame⟩ := X0.leave (v := some (.int 0)) (fun h => by rw [Bd.returns] at h; cases h)
  refine own_out ⟨_, _, ?_, hrun, hended, _, _, rfl, ?_, ⟨_, rfl⟩, hW, hsame.mono (by decide) (by decide)⟩
  · exact retI X0 hx Bd.returns (hb hby d8_10) hr
  · show Q8_7 Z  h0 n0 _ s₁.heap _
    rw [e0]
    exact ⟨rfl, N0, rfl⟩
def Q6_8 (Z : State) (a1 : Addr) (q2 : Int64) (a4 : Addr) (h0 : Heap) (n0 : Nat) (v : Option Value) (h : Heap) (L : List Loc) : Prop := v = some (.int (-1)) ∧ Fr n0 L ∧ h = h0
set_option maxRecDepth 65536 in
set_option maxHeartbeats 40000000 in
theorem rm6_8 (l : Launch) (Z : State) (a0 : Array Value) (hw : ∀ d ∈ tables_1, d.before a0 Z = true) (ws : List Jvm.Cond) (a1 : Addr) (q2 : Int64) (a4 : Addr) (h0 : Heap) (n0 : Nat) (Z0 : n0 ≤ h0.size) (F5 : Fld Z h0 a1 zs2 "side" zs4 (.ref a4)) (F6 : Sta Z h0 zs6 "BUY" zs4 (.ref a4)) (F7 : Exa Z h0 a1 zs2) (F9 : Fld Z h0 a1 zs2 "count" "I" (.int 0)) (hc13 : ¬ (q2 = (-9223372036854775808 : Int64))) (hc14 : ¬ (q2 = (9223372036854775807 : Int64))) :
    MetFree l zm5 (head1 (Jvm.Cond.code zm5 prog_2_method_8_code 11 (some .int) :: ws) ({ frames := 1, cells := 0, slots := 0, locals := 14 } : Room)) (fun a U => a = #[(.ref a1), (.long q2), .null] ∧ Z.Warmed39 U.vm ∧ U.heap = h0) (fun _ _ _ _ _ => True) (fun _ U o U' => ∃ v L, o = .returned v ∧ Q6_8 Z a1 q2 a4 h0 n0 v U'.heap L ∧ FrameEnd U o U' L ({ frames := 1, cells := 0, slots := 0, locals := 14 } : Room).cells ({ frames := 1, cells := 0, slots := 0, locals := 14 } : Room).slots) := by
  refine MetFree.of_bodySF (plainFor_of_name pn_com_example_srok_srok_engine_BookSide) hisR ?_
  intro p e s m args below meth c s₁ Bd hml0 hP hK
  obtain ⟨rfl, hZ, hh⟩ := hP
  have hx := Bd.exec
  have hby := Bd.bytes
  have hml : c.maxLocals = 11 := hml0
  have hown : s.vm.findClass zs2 = some m.cls := findClass_of_methodNamed Bd.named
  have hnm := (name_of_methodNamed Bd.named Bd.method).1
  have X0 : Stand p l e ({ frames := 1, cells := 0, slots := 0, locals := 14 } : Room) s m #[(.ref a1), (.long q2), .null] below meth c s₁ [] 0 0 := Stand.of_body Bd
  have e0 : s₁.heap = h0 := by rw [← hh, Bd.state]; rfl
  have N0 := Fr.nil n0
  refine own_pre (g' := mkF m 0 (lc11 a1 q2) []) (ef_5 m a1 q2) ?_
  obtain ⟨_, T3, L3, X3, hQ3, st3⟩ := ocallP X0 hx hZ zm3 hown (ww hw 43 rfl) (ww hw 44 rfl) (own_selP (mvT hZ (ww hw 10 rfl)) (mvP hZ (ww hw 45 rfl)) (mvT hZ (ww hw 44 rfl)) (by decide)) (ww hw 45 rfl) (by decide) (ww hw 46 rfl) (ww hw 11 rfl) e0 F7 (rm7_6 l Z a0 hw [] a1 q2 a4 h0 n0 Z0 F5 F6) (st := [(.long q2), (.ref a1)]) rfl 0 rfl (by decide) (pc := 2) (Ls := (lc11 a1 q2)) hml rfl (lenOf pd_0 rfl) d6_2 hby
  obtain ⟨rfl, N3q, e3⟩ := hQ3
  have N8 := Fr.app N0 N3q
  obtain ⟨T10, X10, e10, st10⟩ := getF X3 hx hZ hown (host := "") (Or.inl (ww hw 32 rfl)) Via.refl e3 F9 (g := (mkF m 8 (lc13 a1 q2 q2) [(.ref a1)])) rfl rfl (hb hby d6_8)
  refine own_go (U' := T10.setTop (mkF m 21 (lc15 a1 q2 q2 0 1) [(.int ((0 : Int32) - (1 : Int32)))])) (fun t k => oaloadN X0 hx hby d6_0 rfl rfl (olloadN X0 hx hby d6_1 rfl (st3 _ (olstore X3 hx hby d6_5 (lc13 a1 q2 q2) rfl (oaloadN X3 hx hby d6_7 rfl rfl (st10 _ (oistore X10 hx hby d6_11 (lc14 a1 q2 q2 0) rfl (oiconst X10 hx hby d6_13 (oistore X10 hx hby d6_14 (lc15 a1 q2 q2 0 1) rfl (oiload X10 hx hby d6_16 rfl (oiload X10 hx hby d6_18 rfl (oisub X10 hx hby d6_20 k)))))))))))) ?_
  rw [show ((0 : Int32) - (1 : Int32)) = (-1 : Int32) from by decide]
  refine own_go (U' := T10.setTop (mkF m 62 (lc15 a1 q2 q2 0 1) [(.int ((0 : Int32) - (1 : Int32))), (.int 0)])) (fun t k => oifY (pc := 21) X10 hx hby d6_21 56 (by decide) (by decide) (oiconst X10 hx hby d6_56 (oiload X10 hx hby d6_57 rfl (oiload X10 hx hby d6_59 rfl (oisub X10 hx hby d6_61 k))))) ?_
  rw [show ((0 : Int32) - (1 : Int32)) = (-1 : Int32) from by decide]
  refine own_go (U' := T10.setTop (mkF m 64 (lc15 a1 q2 q2 0 1) [(.int ((-1 : Int32) + (1 : Int32))), (.int 0)])) (fun t k => oiconst X10 hx hby d6_62 (oiadd X10 hx hby d6_63 k)) ?_
  rw [show ((-1 : Int32) + (1 : Int32)) = (0 : Int32) from by decide]
  obtain ⟨_, T11, L11, X11, hQ11, st11⟩ := ocallS X10 hx hZ zm4 hown (ww hw 48 rfl) (ww hw 49 rfl) (by decide) (ww hw 51 rfl) (ww hw 50 rfl) e10 (rm8_7 l Z a0 hw []  h0 n0 Z0 ) (st := [(.int 0), (.int 0)]) rfl 0 rfl (by decide) (pc := 64) (Ls := (lc15 a1 q2 q2 0 1)) hml rfl (lenOf pd_3 rfl) d6_64 hby
  obtain ⟨rfl, N11q, e11⟩ := hQ11
  have N12 := Fr.app N8 N11q
  refine own_go (U' := T11.setTop (mkF m 79 (lc18 a1 q2 q2 0 1 0 0) [(.int 1), (.int 0)])) (fun t k => st11 _ (oistore X11 hx hby d6_67 (lc17 a1 q2 q2 0 1 0) rfl (oiload X11 hx hby d6_69 rfl (oiload X11 hx hby d6_71 rfl (oisub X11 hx hby d6_73 (oistore X11 hx hby d6_74 (lc18 a1 q2 q2 0 1 0 0) rfl (oiload X11 hx hby d6_76 rfl (oiconst X11 hx hby d6_78 k)))))))) ?_
  refine own_go (U' := T11.setTop (mkF m 132 (lc18 a1 q2 q2 0 1 0 0) [(.int 0), (.int 0)])) (fun t k => oicY (pc := 79) X11 hx hby d6_79 128 (by decide) (by decide) (oiload X11 hx hby d6_128 rfl (oiload X11 hx hby d6_130 rfl k))) ?_
  refine own_go (U' := T11.setTop (mkF m 157 (lc18 a1 q2 q2 0 1 0 0) [(.int (lcmpW q2 (-9223372036854775808 : Int64)))])) (fun t k => oicY (pc := 132) X11 hx hby d6_132 151 (by decide) (by decide) (olload X11 hx hby d6_151 rfl (X11.ldc2Long hx hown (mvT hZ (ww hw 52 rfl)) (g := (mkF m 153 (lc18 a1 q2 q2 0 1 0 0) [(.long q2)])) rfl (hb hby d6_153) _ (olcmp X11 hx hby d6_156 k)))) ?_
  refine own_go (U' := T11.setTop (mkF m 166 (lc18 a1 q2 q2 0 1 0 0) [(.int (lcmpW q2 (9223372036854775807 : Int64)))])) (fun t k => oifN X11 hx hby d6_157 (own_ll_eq_f hc13) (olload X11 hx hby d6_160 rfl (X11.ldc2Long hx hown (mvT hZ (ww hw 53 rfl)) (g := (mkF m 162 (lc18 a1 q2 q2 0 1 0 0) [(.long q2)])) rfl (hb hby d6_162) _ (olcmp X11 hx hby d6_165 k)))) ?_
  refine own_go (U' := T11.setTop (mkF m 178 (lc18 a1 q2 q2 0 1 0 1) [(.int 1)])) (fun t k => oifN X11 hx hby d6_166 (own_ll_eq_f hc14) (oiconst X11 hx hby d6_169 (ogoto (pc := 170) X11 hx hby d6_170 174 (by decide) (oistore X11 hx hby d6_174 (lc18 a1 q2 q2 0 1 0 1) rfl (oiload X11 hx hby d6_176 rfl k))))) ?_
  obtain ⟨T15, X15, e15, st15⟩ := getF X11 hx hZ hown (host := "") (Or.inl (ww hw 32 rfl)) Via.refl e11 F9 (g := (mkF m 230 (lc18 a1 q2 q2 0 1 0 1) [(.ref a1), (.int 0)])) rfl rfl (hb hby d6_230)
  refine own_go (U' := T15.setTop (mkF m 233 (lc18 a1 q2 q2 0 1 0 1) [(.int 0), (.int 0)])) (fun t k => oifY (pc := 178) X11 hx hby d6_178 227 (by decide) (by decide) (oiload X11 hx hby d6_227 rfl (oaloadN X11 hx hby d6_229 rfl rfl (st15 _ k)))) ?_
  refine own_go (U' := T15.setTop (mkF m 280 (lc19 a1 q2 q2 0 1 0 1 0) [(.int 0)])) (fun t k => oicY (pc := 233) X15 hx hby d6_233 275 (by decide) (by decide) (oiconst X15 hx hby d6_275 (oistore X15 hx hby d6_276 (lc19 a1 q2 q2 0 1 0 1 0) rfl (oiload X15 hx hby d6_278 rfl k)))) ?_
  refine own_go (U' := T15.setTop (mkF m 292 (lc19 a1 q2 q2 0 1 0 1 0) [(.int ((-1 : Int32) - (0 : Int32)))])) (fun t k => oifY (pc := 280) X15 hx hby d6_280 288 (by decide) (by decide) (oiconst X15 hx hby d6_288 (oiload X15 hx hby d6_289 rfl (oisub X15 hx hby d6_291 k)))) ?_
  rw [show ((-1 : Int32) - (0 : Int32)) = (-1 : Int32) from by decide]
  obtain ⟨fs, hr, hrun, hended, hW, hsame⟩ := X15.leave (v := some (.int (-1))) (fun h => by rw [Bd.returns] at h; cases h)
  refine own_out ⟨_, _, ?_, hrun, hended, _, _, rfl, ?_, ⟨_, rfl⟩, hW, hsame.mono (by decide) (by decide)⟩
  · exact retI X15 hx Bd.returns (hb hby d6_292) hr
  · show Q6_8 Z a1 q2 a4 h0 n0 _ T15.heap _
    rw [e15]
    exact ⟨rfl, N12, rfl⟩
def Qmg6_9 (Z : State) (a1 : Addr) (q2 : Int64) (a3 : Addr) (h0 : Heap) (n0 : Nat) (v : Option Value) (h : Heap) (L : List Loc) : Prop := v = some (.int (-1)) ∧ Fr n0 L ∧ h = h0
theorem mg6_9 (l : Launch) (Z : State) (a0 : Array Value) (hw : ∀ d ∈ tables_1, d.before a0 Z = true) (ws : List Jvm.Cond) (a1 : Addr) (q2 : Int64) (a3 : Addr) (h0 : Heap) (n0 : Nat) (Z0 : n0 ≤ h0.size) (F4 : Fld Z h0 a1 zs2 "side" zs4 (.ref a3)) (F5 : Sta Z h0 zs6 "BUY" zs4 (.ref a3)) (F6 : Exa Z h0 a1 zs2) (F7 : Fld Z h0 a1 zs2 "count" "I" (.int 0)) (hc8 : ¬ (q2 = (-9223372036854775808 : Int64))) (hc9 : ¬ (q2 = (9223372036854775807 : Int64))) :
    MetFree l zm5 (head1 (Jvm.Cond.code zm5 prog_2_method_8_code 11 (some .int) :: ws) ({ frames := 1, cells := 0, slots := 0, locals := 14 } : Room)) (fun a U => a = #[(.ref a1), (.long q2), .null] ∧ Z.Warmed39 U.vm ∧ U.heap = h0) (fun _ _ _ _ _ => True) (fun _ U o U' => ∃ v L, o = .returned v ∧ Qmg6_9 Z a1 q2 a3 h0 n0 v U'.heap L ∧ FrameEnd U o U' L ({ frames := 1, cells := 0, slots := 0, locals := 14 } : Room).cells ({ frames := 1, cells := 0, slots := 0, locals := 14 } : Room).slots) := by
  exact rm6_8 l Z a0 hw ws a1 q2 a3 h0 n0 Z0 F4 F5 F6 F7 hc8 hc9
def Q9_10 (Z : State) (a1 : Addr) (q2 : Int64) (h0 : Heap) (n0 : Nat) (v : Option Value) (h : Heap) (L : List Loc) : Prop := v = none ∧ Fr n0 L ∧ Keep h0 h [a1] ∧ Fld Z h a1 zs1 "price" zs10 .null ∧ Fld Z h a1 zs1 "priceSteps" "J" (.long q2) ∧ Fld Z h a1 zs1 "first" zs11 .null
set_option maxRecDepth 65536 in
set_option maxHeartbeats 40000000 in
theorem rm9_10 (l : Launch) (Z : State) (a0 : Array Value) (hw : ∀ d ∈ tables_1, d.before a0 Z = true) (ws : List Jvm.Cond) (a1 : Addr) (q2 : Int64) (h0 : Heap) (n0 : Nat) (Z0 : n0 ≤ h0.size) (F4 : Fld Z h0 a1 zs1 "price" zs10 .null) (F5 : Fld Z h0 a1 zs1 "priceSteps" "J" (.long 0)) (F6 : Fld Z h0 a1 zs1 "first" zs11 .null) (F7 : Exa Z h0 a1 zs1) (g9 : n0 ≤ a1) :
    MetFree l zm6 (head1 (Jvm.Cond.code zm6 prog_14_method_1_code 4 none :: ws) ({ frames := 1, cells := 0, slots := 0, locals := 12 } : Room)) (fun a U => a = #[(.ref a1), .null, (.long q2)] ∧ Z.Warmed39 U.vm ∧ U.heap = h0) (fun _ _ _ _ _ => True) (fun _ U o U' => ∃ v L, o = .returned v ∧ Q9_10 Z a1 q2 h0 n0 v U'.heap L ∧ FrameEnd U o U' L ({ frames := 1, cells := 0, slots := 0, locals := 12 } : Room).cells ({ frames := 1, cells := 0, slots := 0, locals := 12 } : Room).slots) := by
  refine MetFree.of_bodySF (plainFor_of_name pn_com_example_srok_srok_engine_PriceLevel) hisR ?_
  intro p e s m args below meth c s₁ Bd hml0 hP hK
  obtain ⟨rfl, hZ, hh⟩ := hP
  have hx := Bd.exec
  have hby := Bd.bytes
  have hml : c.maxLocals = 4 := hml0
  have hown : s.vm.findClass zs1 = some m.cls := findClass_of_methodNamed Bd.named
  have hnm := (name_of_methodNamed Bd.named Bd.method).1
  have X0 : Stand p l e ({ frames := 1, cells := 0, slots := 0, locals := 12 } : Room) s m #[(.ref a1), .null, (.long q2)] below meth c s₁ [] 0 0 := Stand.of_body Bd
  have e0 : s₁.heap = h0 := by rw [← hh, Bd.state]; rfl
  have N0 := Fr.nil n0
  refine own_pre (g' := mkF m 0 (lc22 a1 q2) []) (ef_6 m a1 q2) ?_
  obtain ⟨T3, X3, e3, st3⟩ := initO X0 hx hZ hown (ww hw 63 rfl) (ww hw 16 rfl) (ww hw 17 rfl) e0 (g := (mkF m 1 (lc22 a1 q2) [(.ref a1)])) rfl (by rw [hml]; rfl) rfl (hb hby d9_1) (by decide) (W := 0) (by show 2 * 0 + _ ≤ _; exact Nat.le_of_eq rfl) (by decide)
  obtain ⟨T8, h8, X8, e8, W8, st8⟩ := putF X3 hx hZ hown (host := "") (Or.inl (ww hw 64 rfl)) Via.refl e3 F4 F7 (Or.inr ⟨(ww hw 65 rfl), rfl, hnm⟩) (ww hw 58 rfl) (ty := (.object zs13)) (by decide) rfl rfl (g := (mkF m 6 (lc22 a1 q2) [.null, (.ref a1)])) rfl rfl (hb hby d9_6)
  have N10 := Fr.snoc X8 N0 g9
  have f11 : Fld Z h8 a1 zs1 "price" zs10 .null := Fld.same W8 F4
  have f12 : Fld Z h8 a1 zs1 "priceSteps" "J" (.long 0) := (Fld.other W8 F5 (Or.inr (slot_ne (Or.inr (ww hw 67 rfl)) (Or.inr (ww hw 65 rfl)) (by decide) (t := .long) (t' := (.object zs13)) (by decide) (by decide))))
  have f13 : Exa Z h8 a1 zs1 := (Exa.wr W8 F7)
  obtain ⟨T14, h14, X14, e14, W14, st14⟩ := putF X8 hx hZ hown (host := "") (Or.inl (ww hw 66 rfl)) Via.refl e8 f12 f13 (Or.inr ⟨(ww hw 67 rfl), rfl, hnm⟩) (ww hw 58 rfl) (ty := .long) (by decide) rfl rfl (g := (mkF m 11 (lc22 a1 q2) [(.long q2), (.ref a1)])) rfl rfl (hb hby d9_11)
  have N15 := Fr.snoc X14 N10 g9
  have f16 : Fld Z h14 a1 zs1 "priceSteps" "J" (.long q2) := Fld.same W14 f12
  refine own_go (U' := T14.setTop (mkF m 14 (lc22 a1 q2) [])) (fun t k => oaloadN X0 hx hby d9_0 rfl rfl (st3 _ (oaloadN X3 hx hby d9_4 rfl rfl (oaloadN X3 hx hby d9_5 rfl rfl (st8 _ (oaloadN X8 hx hby d9_9 rfl rfl (olloadN X8 hx hby d9_10 rfl (st14 _ k)))))))) ?_
  have f17 : Fld Z h14 a1 zs1 "price" zs10 .null := (Fld.other W14 f11 (Or.inr (slot_ne (Or.inr (ww hw 65 rfl)) (Or.inr (ww hw 67 rfl)) (by decide) (t := (.object zs13)) (t' := .long) (by decide) (by decide))))
  have f18 : Fld Z h14 a1 zs1 "first" zs11 .null := (Fld.other W14 (Fld.other W8 F6 (Or.inr (slot_ne (Or.inl (ww hw 78 rfl)) (Or.inr (ww hw 65 rfl)) (by decide) (t := (.object zs14)) (t' := (.object zs13)) (by decide) (by decide)))) (Or.inr (slot_ne (Or.inl (ww hw 78 rfl)) (Or.inr (ww hw 67 rfl)) (by decide) (t := (.object zs14)) (t' := .long) (by decide) (by decide))))
  obtain ⟨fs, hr, hrun, hended, hW, hsame⟩ := X14.leave (v := none) (fun _ => rfl)
  refine own_out ⟨_, _, ?_, hrun, hended, _, _, rfl, ?_, ⟨_, rfl⟩, hW, hsame.mono (by decide) (by decide)⟩
  · exact X14.returnOut hx Bd.returns (hb hby d9_14) hr
  · show Q9_10 Z a1 q2 h0 n0 _ T14.heap _
    rw [e14]
    exact ⟨rfl, N15, (((Keep.refl h0 [a1]).wr W8 (Or.inl (List.mem_of_getElem? (i := 0) rfl))).wr W14 (Or.inl (List.mem_of_getElem? (i := 0) rfl))), f17, f16, f18⟩
def Q5_11 (Z : State) (a1 : Addr) (q2 : Int64) (a4 : Addr) (a13 : Addr) (kc16 : ClassId) (a27 : Addr) (kc36 : ClassId) (h0 : Heap) (n0 : Nat) (v : Option Value) (h : Heap) (L : List Loc) : Prop := ∃ b43 : Addr, v = some (.ref b43) ∧ Fr n0 L ∧ Keep h0 h [a13, a27, a1] ∧ h0.size ≤ b43 ∧ Arv Z h a13 kc16 (.object zs1) (16 : Int32) [(.ref b43)] .null ∧ Arv Z h a27 kc36 .long (16 : Int32) [(.long q2)] (.long (0 : Int64)) ∧ Fld Z h a1 zs2 "side" zs4 (.ref a4) ∧ Fld Z h a1 zs2 "count" "I" (.int 1) ∧ Fld Z h a1 zs2 "levels" zs3 (.ref a13) ∧ Fld Z h a1 zs2 "ranks" "[J" (.ref a27) ∧ Fld Z h a1 zs2 "emptyLevels" "I" (.int 0) ∧ Exa Z h b43 zs1 ∧ Fld Z h b43 zs1 "price" zs10 .null ∧ Fld Z h b43 zs1 "priceSteps" "J" (.long q2) ∧ Fld Z h b43 zs1 "first" zs11 .null
set_option maxRecDepth 65536 in
set_option maxHeartbeats 40000000 in
theorem rm5_11 (l : Launch) (Z : State) (a0 : Array Value) (hw : ∀ d ∈ tables_1, d.before a0 Z = true) (ws : List Jvm.Cond) (a1 : Addr) (q2 : Int64) (a4 : Addr) (a13 : Addr) (kc16 : ClassId) (a27 : Addr) (kc36 : ClassId) (h0 : Heap) (n0 : Nat) (Z0 : n0 ≤ h0.size) (F5 : Fld Z h0 a1 zs2 "side" zs4 (.ref a4)) (F6 : Sta Z h0 zs6 "BUY" zs4 (.ref a4)) (F7 : Exa Z h0 a1 zs2) (F8 : Fld Z h0 a1 zs2 "count" "I" (.int 0)) (hc9 : ¬ (q2 = (-9223372036854775808 : Int64))) (hc10 : ¬ (q2 = (9223372036854775807 : Int64))) (F14 : Fld Z h0 a1 zs2 "levels" zs3 (.ref a13)) (F17 : Arv Z h0 a13 kc16 (.object zs1) (16 : Int32) [] .null) (g24 : n0 ≤ a13) (O25 : Ovr Z kc16 zs1) (F28 : Fld Z h0 a1 zs2 "ranks" "[J" (.ref a27)) (ne29 : a1 ≠ a13) (F37 : Arv Z h0 a27 kc36 .long (16 : Int32) [] (.long (0 : Int64))) (ne38 : a27 ≠ a13) (g41 : n0 ≤ a27) (ne53 : a1 ≠ a27) (F79 : Fld Z h0 a1 zs2 "emptyLevels" "I" (.int 0)) (g82 : n0 ≤ a1) :
    MetFree l zm7 (head1 (Jvm.Cond.code zm7 prog_2_method_5_code 7 (some (.object zs1)) :: ws) ({ frames := 2, cells := 1, slots := 4, locals := 36 } : Room)) (fun a U => a = #[(.ref a1), (.long q2), .null] ∧ Z.Warmed39 U.vm ∧ U.heap = h0) (fun _ _ _ _ _ => True) (fun _ U o U' => ∃ v L, o = .returned v ∧ Q5_11 Z a1 q2 a4 a13 kc16 a27 kc36 h0 n0 v U'.heap L ∧ FrameEnd U o U' L ({ frames := 2, cells := 1, slots := 4, locals := 36 } : Room).cells ({ frames := 2, cells := 1, slots := 4, locals := 36 } : Room).slots) := by
  refine MetFree.of_bodySF (plainFor_of_name pn_com_example_srok_srok_engine_BookSide) hisR ?_
  intro p e s m args below meth c s₁ Bd hml0 hP hK
  obtain ⟨rfl, hZ, hh⟩ := hP
  have hx := Bd.exec
  have hby := Bd.bytes
  have hml : c.maxLocals = 7 := hml0
  have hown : s.vm.findClass zs2 = some m.cls := findClass_of_methodNamed Bd.named
  have hnm := (name_of_methodNamed Bd.named Bd.method).1
  have X0 : Stand p l e ({ frames := 2, cells := 1, slots := 4, locals := 36 } : Room) s m #[(.ref a1), (.long q2), .null] below meth c s₁ [] 0 0 := Stand.of_body Bd
  have e0 : s₁.heap = h0 := by rw [← hh, Bd.state]; rfl
  have N0 := Fr.nil n0
  refine own_pre (g' := mkF m 0 (lc10 a1 q2) []) (ef_7 m a1 q2) ?_
  obtain ⟨_, T3, L3, X3, hQ3, st3⟩ := ocallP X0 hx hZ zm5 hown (ww hw 39 rfl) (ww hw 40 rfl) (own_selP (mvT hZ (ww hw 10 rfl)) (mvP hZ (ww hw 41 rfl)) (mvT hZ (ww hw 40 rfl)) (by decide)) (ww hw 41 rfl) (by decide) (ww hw 42 rfl) (ww hw 11 rfl) e0 F7 (mg6_9 l Z a0 hw [] a1 q2 a4 h0 n0 Z0 F5 F6 F7 F8 hc9 hc10) (st := [.null, (.long q2), (.ref a1)]) rfl 0 rfl (by decide) (pc := 3) (Ls := (lc10 a1 q2)) hml rfl (lenOf pd_4 rfl) d5_3 hby
  obtain ⟨rfl, N3q, e3⟩ := hQ3
  have N11 := Fr.app N0 N3q
  refine own_go (U' := T3.setTop (mkF m 10 (lc20 a1 q2 (-1)) [(.int (-1))])) (fun t k => oaloadN X0 hx hby d5_0 rfl rfl (olloadN X0 hx hby d5_1 rfl (oaloadN X0 hx hby d5_2 rfl rfl (st3 _ (oistore X3 hx hby d5_6 (lc20 a1 q2 (-1)) rfl (oiload X3 hx hby d5_8 rfl k)))))) ?_
  refine own_go (U' := T3.setTop (mkF m 47 (lc20 a1 q2 (-1)) [(.int (-(-1 : Int32)))])) (fun t k => oifY (pc := 10) X3 hx hby d5_10 44 (by decide) (by decide) (oiload X3 hx hby d5_44 rfl (oineg X3 hx hby d5_46 k))) ?_
  rw [show (-(-1 : Int32)) = (1 : Int32) from by decide]
  obtain ⟨T12, X12, e12, st12⟩ := getF X3 hx hZ hown (host := "") (Or.inl (ww hw 32 rfl)) Via.refl e3 F8 (g := (mkF m 52 (lc21 a1 q2 (-1) 0) [(.ref a1)])) rfl rfl (hb hby d5_52)
  obtain ⟨T15, X15, e15, st15⟩ := getF X12 hx hZ hown (host := "") (Or.inl (ww hw 20 rfl)) Via.refl e12 F14 (g := (mkF m 56 (lc21 a1 q2 (-1) 0) [(.ref a1), (.int 0)])) rfl rfl (hb hby d5_56)
  refine own_go (U' := T15.setTop (mkF m 59 (lc21 a1 q2 (-1) 0) [(.ref a13), (.int 0)])) (fun t k => oiconst X3 hx hby d5_47 (oisub X3 hx hby d5_48 (oistore X3 hx hby d5_49 (lc21 a1 q2 (-1) 0) rfl (oaloadN X3 hx hby d5_51 rfl rfl (st12 _ (oaloadN X12 hx hby d5_55 rfl rfl (st15 _ k))))))) ?_
  obtain ⟨cl18, Ar18, q18, S18, N18, H18, G18⟩ := id F17
  refine own_go (fun t k => X15.arraylength hx (by rw [e15]; exact Ar18.1) (State.isArrayOf_alike hZ.alike Ar18.2.1) (g := (mkF m 59 (lc21 a1 q2 (-1) 0) [(.ref a13), (.int 0)])) rfl rfl (hb hby d5_59) _ k) ?_
  rw [len_of S18 N18]
  obtain ⟨T19, X19, e19, st19⟩ := getF X15 hx hZ hown (host := "") (Or.inl (ww hw 20 rfl)) Via.refl e15 F14 (g := (mkF m 101 (lc21 a1 q2 (-1) 0) [(.ref a1)])) rfl rfl (hb hby d5_101)
  obtain ⟨T20, X20, e20, st20⟩ := getF X19 hx hZ hown (host := "") (Or.inl (ww hw 20 rfl)) Via.refl e19 F14 (g := (mkF m 107 (lc21 a1 q2 (-1) 0) [(.ref a1), (.int 0), (.ref a13)])) rfl rfl (hb hby d5_107)
  obtain ⟨T21, X21, e21, st21⟩ := getF X20 hx hZ hown (host := "") (Or.inl (ww hw 32 rfl)) Via.refl e20 F8 (g := (mkF m 115 (lc21 a1 q2 (-1) 0) [(.ref a1), (.int 1), (.ref a13), (.int 0), (.ref a13)])) rfl rfl (hb hby d5_115)
  have f23 : Arv Z h0 a13 kc16 (.object zs1) (16 : Int32) [.null] .null := F17.pad (pad_rep [] .null 1)
  obtain ⟨cl22, Ar22, q22, -⟩ := id f23
  obtain ⟨T22, h22, L22, X22, e22, N22, K22, V22, st22⟩ := cpA X21 hx hZ hown (ww hw 54 rfl) (ww hw 57 rfl) (ww hw 55 rfl) (ww hw 56 rfl) e21 (us := []) f23 f23 (Or.inr ⟨rfl, rfl, trivial⟩) (by decide) (by decide) (by decide) (by decide) (by decide) rfl (Nat.le_of_ble_eq_true rfl) N11 g24 (g := (mkF m 121 (lc21 a1 q2 (-1) 0) [(.int 0), (.int 1), (.ref a13), (.int 0), (.ref a13)])) rfl (by rw [hml]; rfl) rfl (hb hby d5_121) (by decide) (W := 0) (by show 2 * 0 + _ ≤ _; exact Nat.le_of_eq rfl) (by decide)
  have f26 : Arv Z h22 a13 kc16 (.object zs1) (16 : Int32) [.null] .null := V22
  have f30 : Fld Z h22 a1 zs2 "ranks" "[J" (.ref a27) := (F28.keep K22 (ninS ne29 nin0))
  obtain ⟨T31, X31, e31, st31⟩ := getF X22 hx hZ hown (host := "") (Or.inl (ww hw 23 rfl)) Via.refl e22 f30 (g := (mkF m 125 (lc21 a1 q2 (-1) 0) [(.ref a1)])) rfl rfl (hb hby d5_125)
  obtain ⟨T32, X32, e32, st32⟩ := getF X31 hx hZ hown (host := "") (Or.inl (ww hw 23 rfl)) Via.refl e31 f30 (g := (mkF m 131 (lc21 a1 q2 (-1) 0) [(.ref a1), (.int 0), (.ref a27)])) rfl rfl (hb hby d5_131)
  have f33 : Fld Z h22 a1 zs2 "count" "I" (.int 0) := (F8.keep K22 (ninS ne29 nin0))
  obtain ⟨T34, X34, e34, st34⟩ := getF X32 hx hZ hown (host := "") (Or.inl (ww hw 32 rfl)) Via.refl e32 f33 (g := (mkF m 139 (lc21 a1 q2 (-1) 0) [(.ref a1), (.int 1), (.ref a27), (.int 0), (.ref a27)])) rfl rfl (hb hby d5_139)
  have f39 : Arv Z h22 a27 kc36 .long (16 : Int32) [] (.long (0 : Int64)) := (F37.keep K22 (ninS ne38 nin0))
  have f40 : Arv Z h22 a27 kc36 .long (16 : Int32) [(.long 0)] (.long (0 : Int64)) := f39.pad (pad_rep [] (.long (0 : Int64)) 1)
  obtain ⟨T35, h35, L35, X35, e35, N35, K35, V35, st35⟩ := cpA X34 hx hZ hown (ww hw 54 rfl) (ww hw 57 rfl) (ww hw 55 rfl) (ww hw 56 rfl) e34 (us := []) f40 f40 (Or.inl ⟨rfl, rfl⟩) (by decide) (by decide) (by decide) (by decide) (by decide) rfl (Nat.le_of_ble_eq_true rfl) N22 g41 (g := (mkF m 145 (lc21 a1 q2 (-1) 0) [(.int 0), (.int 1), (.ref a27), (.int 0), (.ref a27)])) rfl (by rw [hml]; rfl) rfl (hb hby d5_145) (by decide) (W := 0) (by show 2 * 0 + _ ≤ _; exact Nat.le_of_eq rfl) (by decide)
  have f42 : Arv Z h35 a27 kc36 .long (16 : Int32) [(.long 0)] (.long (0 : Int64)) := V35
  obtain ⟨T43, h43, X43, e43, E43, A43, D43, -, st43⟩ := newO X35 hx hZ hown (ww hw 18 rfl) (ww hw 58 rfl) (ww hw 59 rfl) e35 (g := (mkF m 148 (lc21 a1 q2 (-1) 0) [])) rfl (hb hby d5_148) (by decide) (by decide)
  obtain ⟨b43, g43⟩ : ∃ z, z = h35.size := ⟨_, rfl⟩
  rw [← g43] at A43 D43 st43
  have f44 : Fld Z h43 b43 zs1 "price" zs10 .null := D43 (Or.inr (ww hw 65 rfl)) (ty := (.object zs13)) (by decide)
  have f45 : Fld Z h43 b43 zs1 "priceSteps" "J" (.long 0) := D43 (Or.inr (ww hw 67 rfl)) (ty := .long) (by decide)
  have f46 : Fld Z h43 b43 zs1 "first" zs11 .null := D43 (Or.inl (ww hw 78 rfl)) (ty := (.object zs14)) (by decide)
  have Z_1 : n0 ≤ h22.size := Nat.le_trans Z0 K22.1
  have Z_2 : n0 ≤ h35.size := Nat.le_trans Z_1 K35.1
  have g48 : n0 ≤ b43 := Nat.le_trans Z_2 (Nat.le_of_eq g43.symm)
  have Z_3 : n0 ≤ h43.size := Nat.le_trans Z_2 E43.1
  obtain ⟨_, T47, L47, X47, hQ47, st47⟩ := ocallI X43 hx hZ zm6 rfl hown (ww hw 60 rfl) (ww hw 61 rfl) (by decide) (ww hw 62 rfl) (ww hw 59 rfl) e43 (rm9_10 l Z a0 hw [] b43 q2 h43 n0 Z_3 f44 f45 f46 A43 g48) (st := [(.long q2), .null, (.ref b43), (.ref b43)]) rfl 1 rfl (by decide) (pc := 154) (Ls := (lc21 a1 q2 (-1) 0)) hml rfl (lenOf pd_5 rfl) d5_154 hby
  obtain ⟨rfl, N47q, K47, f49, f50, f51⟩ := hQ47
  have N52 := Fr.app N35 N47q
  have ne54 : a1 ≠ b43 := Nat.ne_of_lt (Nat.lt_of_lt_of_le (Nat.lt_of_lt_of_le (Nat.lt_of_lt_of_le (F5.lt) K22.1) K35.1) (Nat.le_of_eq g43.symm))
  have f55 : Fld Z T47.heap a1 zs2 "levels" zs3 (.ref a13) := ((Fld.ext E43 ((F14.keep K22 (ninS ne29 nin0)).keep K35 (ninS ne53 nin0))).keep K47 (ninS ne54 nin0))
  obtain ⟨T56, X56, e56, st56⟩ := getF X47 hx hZ hown (host := "") (Or.inl (ww hw 20 rfl)) Via.refl rfl f55 (g := (mkF m 160 (lc23 a1 q2 (-1) 0 b43) [(.ref a1)])) rfl rfl (hb hby d5_160)
  have ne57 : a13 ≠ b43 := Nat.ne_of_lt (Nat.lt_of_lt_of_le (Nat.lt_of_lt_of_le (f26.lt) K35.1) (Nat.le_of_eq g43.symm))
  have f58 : Arv Z T47.heap a13 kc16 (.object zs1) (16 : Int32) [.null] .null := (((f26.keep K35 (ninS (Ne.symm ne38) nin0)).ext E43).keep K47 (ninS ne57 nin0))
  have f59 : Exa Z T47.heap b43 zs1 := (A43.keep K47)
  obtain ⟨cl60, Ar60, q60, S60, N60, H60, G60⟩ := id f58
  have hin61 : ¬ ((0 : Int32) < 0 ∨ cl60.slots.size ≤ ((0 : Int32)).toNatClampNeg) := inb_of S60 ⟨by decide, by decide⟩
  obtain ⟨T61, h61, X61, e61, W61, st61⟩ := stR X56 hx hZ e56 Ar60 (j := (0 : Int32)) hin61 rfl (Sto.ofV Ar60 q60 O25 (Ins.self f59)) (g := (mkF m 167 (lc23 a1 q2 (-1) 0 b43) [(.ref b43), (.int 0), (.ref a13)])) rfl rfl (hb hby d5_167)
  have N62 := Fr.snoc X61 N52 g24
  have f63 : Arv Z h61 a13 kc16 (.object zs1) (16 : Int32) [(.ref b43)] .null := Arv.set Ar60 q60 S60 N60 H60 G60 (by rfl) W61 0 rfl (Nat.le_of_ble_eq_true rfl)
  have f64 : Fld Z h61 a1 zs2 "ranks" "[J" (.ref a27) := (Fld.other W61 ((Fld.ext E43 (f30.keep K35 (ninS ne53 nin0))).keep K47 (ninS ne54 nin0)) (Or.inl ne29))
  obtain ⟨T65, X65, e65, st65⟩ := getF X61 hx hZ hown (host := "") (Or.inl (ww hw 23 rfl)) Via.refl e61 f64 (g := (mkF m 169 (lc23 a1 q2 (-1) 0 b43) [(.ref a1)])) rfl rfl (hb hby d5_169)
  have f67 : Fld Z h61 a1 zs2 "side" zs4 (.ref a4) := (Fld.other W61 ((Fld.ext E43 ((F5.keep K22 (ninS ne29 nin0)).keep K35 (ninS ne53 nin0))).keep K47 (ninS ne54 nin0)) (Or.inl ne29))
  have f68 : Sta Z h61 zs6 "BUY" zs4 (.ref a4) := (Sta.wr W61 (own_staK (Sta.ext E43 (own_staK (own_staK F6 K22 (allS (own_nsV f23) all0)) K35 (allS (own_nsV f40) all0))) K47 (allS (own_nsF f44) all0)))
  have Z_4 : n0 ≤ T47.heap.size := Nat.le_trans Z_3 K47.1
  have Z_5 : n0 ≤ h61.size := Nat.le_trans Z_4 (Keep.of_wr W61).1
  have f69 : Exa Z h61 a1 zs2 := (Exa.wr W61 ((Exa.ext E43 ((F7.keep K22).keep K35)).keep K47))
  obtain ⟨_, T66, L66, X66, hQ66, st66⟩ := ocallP X65 hx hZ zm3 hown (ww hw 43 rfl) (ww hw 44 rfl) (own_selP (mvT hZ (ww hw 10 rfl)) (mvP hZ (ww hw 45 rfl)) (mvT hZ (ww hw 44 rfl)) (by decide)) (ww hw 45 rfl) (by decide) (ww hw 46 rfl) (ww hw 11 rfl) e65 f69 (rm7_6 l Z a0 hw [] a1 q2 a4 h61 n0 Z_5 f67 f68) (st := [(.long q2), (.ref a1), (.int 0), (.ref a27)]) rfl 2 rfl (by decide) (pc := 176) (Ls := (lc23 a1 q2 (-1) 0 b43)) hml rfl (lenOf pd_0 rfl) d5_176 hby
  obtain ⟨rfl, N66q, e66⟩ := hQ66
  have N70 := Fr.app N62 N66q
  have ne71 : a27 ≠ b43 := Nat.ne_of_lt (Nat.lt_of_lt_of_le (f42.lt) (Nat.le_of_eq g43.symm))
  have f72 : Arv Z h61 a27 kc36 .long (16 : Int32) [(.long 0)] (.long (0 : Int64)) := (((f42.ext E43).keep K47 (ninS ne71 nin0)).other W61 ne38)
  obtain ⟨cl73, Ar73, q73, S73, N73, H73, G73⟩ := id f72
  have hin74 : ¬ ((0 : Int32) < 0 ∨ cl73.slots.size ≤ ((0 : Int32)).toNatClampNeg) := inb_of S73 ⟨by decide, by decide⟩
  obtain ⟨T74, h74, X74, e74, W74, st74⟩ := stJ X66 hx hZ e66 Ar73 (j := (0 : Int32)) hin74 (g := (mkF m 179 (lc23 a1 q2 (-1) 0 b43) [(.long q2), (.int 0), (.ref a27)])) rfl rfl (hb hby d5_179)
  have N75 := Fr.snoc X74 N70 g41
  have f76 : Arv Z h74 a27 kc36 .long (16 : Int32) [(.long q2)] (.long (0 : Int64)) := Arv.set Ar73 q73 S73 N73 H73 G73 (by rfl) W74 0 rfl (Nat.le_of_ble_eq_true rfl)
  have f77 : Fld Z h74 a1 zs2 "count" "I" (.int 0) := (Fld.other W74 (Fld.other W61 ((Fld.ext E43 (f33.keep K35 (ninS ne53 nin0))).keep K47 (ninS ne54 nin0)) (Or.inl ne29)) (Or.inl ne53))
  obtain ⟨T78, X78, e78, st78⟩ := getF X74 hx hZ hown (host := "") (Or.inl (ww hw 32 rfl)) Via.refl e74 f77 (g := (mkF m 182 (lc23 a1 q2 (-1) 0 b43) [(.ref a1), (.ref a1)])) rfl rfl (hb hby d5_182)
  have f80 : Exa Z h74 a1 zs2 := (Exa.wr W74 f69)
  obtain ⟨T81, h81, X81, e81, W81, st81⟩ := putF X78 hx hZ hown (host := "") (Or.inl (ww hw 32 rfl)) Via.refl e78 f77 f80 (Or.inl (ww hw 33 rfl)) (ww hw 10 rfl) (ty := .int) (by decide) rfl rfl (g := (mkF m 187 (lc23 a1 q2 (-1) 0 b43) [(.int 1), (.ref a1)])) rfl rfl (hb hby d5_187)
  have N83 := Fr.snoc X81 N75 g82
  have f84 : Fld Z h81 a1 zs2 "count" "I" (.int 1) := Fld.same W81 f77
  refine own_go (U' := T81.setTop (mkF m 192 (lc23 a1 q2 (-1) 0 b43) [(.ref b43)])) (fun t k => oicY (pc := 60) X15 hx hby d5_60 100 (by decide) (by decide) (oaloadN X15 hx hby d5_100 rfl rfl (st19 _ (oiload X19 hx hby d5_104 rfl (oaloadN X19 hx hby d5_106 rfl rfl (st20 _ (oiload X20 hx hby d5_110 rfl (oiconst X20 hx hby d5_112 (oiadd X20 hx hby d5_113 (oaloadN X20 hx hby d5_114 rfl rfl (st21 _ (oiload X21 hx hby d5_118 rfl (oisub X21 hx hby d5_120 (st22 _ (oaloadN X22 hx hby d5_124 rfl rfl (st31 _ (oiload X31 hx hby d5_128 rfl (oaloadN X31 hx hby d5_130 rfl rfl (st32 _ (oiload X32 hx hby d5_134 rfl (oiconst X32 hx hby d5_136 (oiadd X32 hx hby d5_137 (oaloadN X32 hx hby d5_138 rfl rfl (st34 _ (oiload X34 hx hby d5_142 rfl (oisub X34 hx hby d5_144 (st35 _ (st43 _ (odup X43 hx hby d5_151 rfl (oaloadN X43 hx hby d5_152 rfl rfl (olloadN X43 hx hby d5_153 rfl (st47 _ (oastore X47 hx hby d5_157 (lc23 a1 q2 (-1) 0 b43) rfl rfl (oaloadN X47 hx hby d5_159 rfl rfl (st56 _ (oiload X56 hx hby d5_163 rfl (oaload X56 hx hby d5_165 rfl rfl (st61 _ (oaloadN X61 hx hby d5_168 rfl rfl (st65 _ (oiload X65 hx hby d5_172 rfl (oaloadN X65 hx hby d5_174 rfl rfl (olloadN X65 hx hby d5_175 rfl (st66 _ (st74 _ (oaloadN X74 hx hby d5_180 rfl rfl (odup X74 hx hby d5_181 rfl (st78 _ (oiconst X78 hx hby d5_185 (oiadd X78 hx hby d5_186 (st81 _ (oaload X81 hx hby d5_190 rfl rfl k)))))))))))))))))))))))))))))))))))))))))))))))))))) ?_
  have f85 : Arv Z h81 a13 kc16 (.object zs1) (16 : Int32) [(.ref b43)] .null := ((f63.other W74 (Ne.symm ne38)).other W81 (Ne.symm ne29))
  have f86 : Arv Z h81 a27 kc36 .long (16 : Int32) [(.long q2)] (.long (0 : Int64)) := (f76.other W81 (Ne.symm ne53))
  have f87 : Fld Z h81 a1 zs2 "side" zs4 (.ref a4) := (Fld.other W81 (Fld.other W74 f67 (Or.inl ne53)) (Or.inr (slot_ne (Or.inr (ww hw 26 rfl)) (Or.inl (ww hw 33 rfl)) (by decide) (t := (.object zs6)) (t' := .int) (by decide) (by decide))))
  have f88 : Fld Z h81 a1 zs2 "levels" zs3 (.ref a13) := (Fld.other W81 (Fld.other W74 (Fld.other W61 f55 (Or.inl ne29)) (Or.inl ne53)) (Or.inr (slot_ne (Or.inl (ww hw 21 rfl)) (Or.inl (ww hw 33 rfl)) (by decide) (t := (.array (.object zs1))) (t' := .int) (by decide) (by decide))))
  have f89 : Fld Z h81 a1 zs2 "ranks" "[J" (.ref a27) := (Fld.other W81 (Fld.other W74 f64 (Or.inl ne53)) (Or.inr (slot_ne (Or.inl (ww hw 24 rfl)) (Or.inl (ww hw 33 rfl)) (by decide) (t := (.array .long)) (t' := .int) (by decide) (by decide))))
  have f90 : Fld Z h81 a1 zs2 "emptyLevels" "I" (.int 0) := (Fld.other W81 (Fld.other W74 (Fld.other W61 ((Fld.ext E43 ((F79.keep K22 (ninS ne29 nin0)).keep K35 (ninS ne53 nin0))).keep K47 (ninS ne54 nin0)) (Or.inl ne29)) (Or.inl ne53)) (Or.inr (slot_ne (Or.inl (ww hw 80 rfl)) (Or.inl (ww hw 33 rfl)) (by decide) (t := .int) (t' := .int) (by decide) (by decide))))
  have f91 : Exa Z h81 b43 zs1 := (Exa.wr W81 (Exa.wr W74 (Exa.wr W61 f59)))
  have f92 : Fld Z h81 b43 zs1 "price" zs10 .null := (Fld.other W81 (Fld.other W74 (Fld.other W61 f49 (Or.inl (Ne.symm ne57))) (Or.inl (Ne.symm ne71))) (Or.inl (Ne.symm ne54)))
  have f93 : Fld Z h81 b43 zs1 "priceSteps" "J" (.long q2) := (Fld.other W81 (Fld.other W74 (Fld.other W61 f50 (Or.inl (Ne.symm ne57))) (Or.inl (Ne.symm ne71))) (Or.inl (Ne.symm ne54)))
  have f94 : Fld Z h81 b43 zs1 "first" zs11 .null := (Fld.other W81 (Fld.other W74 (Fld.other W61 f51 (Or.inl (Ne.symm ne57))) (Or.inl (Ne.symm ne71))) (Or.inl (Ne.symm ne54)))
  obtain ⟨fs, hr, hrun, hended, hW, hsame⟩ := X81.leave (v := some (.ref b43)) (fun h => by rw [Bd.returns] at h; cases h)
  refine own_out ⟨_, _, ?_, hrun, hended, _, _, rfl, ?_, ⟨_, rfl⟩, hW, hsame.mono (by decide) (by decide)⟩
  · exact retOut X81 hx Bd.returns rfl (Or.inr (Or.inr (Or.inr (Or.inr ⟨rfl, rfl, rfl⟩)))) (hb hby d5_192) hr
  · show Q5_11 Z a1 q2 a4 a13 kc16 a27 kc36 h0 n0 _ T81.heap _
    rw [e81]
    exact ⟨b43, rfl, N83, ((((Keep.trans ((Keep.trans (Keep.trans (Keep.refl h0 [a13, a27, a1]) K22 (allS (Or.inl (List.mem_of_getElem? (i := 0) rfl)) all0)) K35 (allS (Or.inl (List.mem_of_getElem? (i := 1) rfl)) all0)).ext E43) K47 (allS (Or.inr (Nat.le_trans K22.1 (Nat.le_trans K35.1 (Nat.le_of_eq g43.symm)))) all0)).wr W61 (Or.inl (List.mem_of_getElem? (i := 0) rfl))).wr W74 (Or.inl (List.mem_of_getElem? (i := 1) rfl))).wr W81 (Or.inl (List.mem_of_getElem? (i := 2) rfl))), (Nat.le_trans K22.1 (Nat.le_trans K35.1 (Nat.le_of_eq g43.symm))), f85, f86, f87, f84, f88, f89, f90, f91, f92, f93, f94⟩
def Q4_12 (Z : State) (a1 : Addr) (a4 : Addr) (a8 : Addr) (kc9 : ClassId) (h0 : Heap) (n0 : Nat) (v : Option Value) (h : Heap) (L : List Loc) : Prop := v = some (.ref a8) ∧ Fr n0 L ∧ h = h0
set_option maxRecDepth 65536 in
set_option maxHeartbeats 40000000 in
theorem rm4_12 (l : Launch) (Z : State) (a0 : Array Value) (hw : ∀ d ∈ tables_1, d.before a0 Z = true) (ws : List Jvm.Cond) (a1 : Addr) (a4 : Addr) (a8 : Addr) (kc9 : ClassId) (h0 : Heap) (n0 : Nat) (Z0 : n0 ≤ h0.size) (F2 : Fld Z h0 a1 zs2 "count" "I" (.int 1)) (F5 : Fld Z h0 a1 zs2 "levels" zs3 (.ref a4)) (F10 : Arv Z h0 a4 kc9 (.object zs1) (16 : Int32) [(.ref a8)] .null) :
    MetFree l zm2 (head1 (Jvm.Cond.code zm2 prog_2_method_3_code 1 (some (.object zs1)) :: ws) ({ frames := 0, cells := 0, slots := 0, locals := 0 } : Room)) (fun a U => a = #[(.ref a1)] ∧ Z.Warmed39 U.vm ∧ U.heap = h0) (fun _ _ _ _ _ => True) (fun _ U o U' => ∃ v L, o = .returned v ∧ Q4_12 Z a1 a4 a8 kc9 h0 n0 v U'.heap L ∧ FrameEnd U o U' L ({ frames := 0, cells := 0, slots := 0, locals := 0 } : Room).cells ({ frames := 0, cells := 0, slots := 0, locals := 0 } : Room).slots) := by
  refine MetFree.of_bodySF (plainFor_of_name pn_com_example_srok_srok_engine_BookSide) hisR ?_
  intro p e s m args below meth c s₁ Bd hml0 hP hK
  obtain ⟨rfl, hZ, hh⟩ := hP
  have hx := Bd.exec
  have hby := Bd.bytes
  have hml : c.maxLocals = 1 := hml0
  have hown : s.vm.findClass zs2 = some m.cls := findClass_of_methodNamed Bd.named
  have hnm := (name_of_methodNamed Bd.named Bd.method).1
  have X0 : Stand p l e ({ frames := 0, cells := 0, slots := 0, locals := 0 } : Room) s m #[(.ref a1)] below meth c s₁ [] 0 0 := Stand.of_body Bd
  have e0 : s₁.heap = h0 := by rw [← hh, Bd.state]; rfl
  have N0 := Fr.nil n0
  refine own_pre (g' := mkF m 0 (lc9 a1) []) (ef_2 m a1) ?_
  obtain ⟨T3, X3, e3, st3⟩ := getF X0 hx hZ hown (host := "") (Or.inl (ww hw 32 rfl)) Via.refl e0 F2 (g := (mkF m 1 (lc9 a1) [(.ref a1)])) rfl rfl (hb hby d4_1)
  refine own_go (U' := T3.setTop (mkF m 4 (lc9 a1) [(.int 1)])) (fun t k => oaloadN X0 hx hby d4_0 rfl rfl (st3 _ k)) ?_
  obtain ⟨T6, X6, e6, st6⟩ := getF X3 hx hZ hown (host := "") (Or.inl (ww hw 20 rfl)) Via.refl e3 F5 (g := (mkF m 12 (lc9 a1) [(.ref a1)])) rfl rfl (hb hby d4_12)
  obtain ⟨T7, X7, e7, st7⟩ := getF X6 hx hZ hown (host := "") (Or.inl (ww hw 32 rfl)) Via.refl e6 F2 (g := (mkF m 16 (lc9 a1) [(.ref a1), (.ref a4)])) rfl rfl (hb hby d4_16)
  obtain ⟨cl11, Ar11, q11, S11, N11, H11, G11⟩ := id F10
  have hin12 : ¬ ((0 : Int32) < 0 ∨ cl11.slots.size ≤ ((0 : Int32)).toNatClampNeg) := inb_of S11 ⟨by decide, by decide⟩
  have hat12 : cl11.slots[((0 : Int32)).toNatClampNeg]? = some (.ref a8) := Has.at H11 hin12 rfl
  refine own_go (U' := T7.setTop (mkF m 22 (lc9 a1) [(.ref a8)])) (fun t k => oifY (pc := 4) X3 hx hby d4_4 11 (by decide) (by decide) (oaloadN X3 hx hby d4_11 rfl rfl (st6 _ (oaloadN X6 hx hby d4_15 rfl rfl (st7 _ (oiconst X7 hx hby d4_19 (oisub X7 hx hby d4_20 (X7.aaload hx (j := (0 : Int32)) (v := (.ref a8)) (by rw [e7]; exact Ar11.1) (State.isArrayOf_alike hZ.alike Ar11.2.1) rfl Ar11.2.2 hin12 hat12 (g := (mkF m 21 (lc9 a1) [(.int 0), (.ref a4)])) rfl rfl (hb hby d4_21) _ k)))))))) ?_
  obtain ⟨fs, hr, hrun, hended, hW, hsame⟩ := X7.leave (v := some (.ref a8)) (fun h => by rw [Bd.returns] at h; cases h)
  refine own_out ⟨_, _, ?_, hrun, hended, _, _, rfl, ?_, ⟨_, rfl⟩, hW, hsame.mono (by decide) (by decide)⟩
  · exact retOut X7 hx Bd.returns rfl (Or.inr (Or.inr (Or.inr (Or.inr ⟨rfl, rfl, rfl⟩)))) (hb hby d4_22) hr
  · show Q4_12 Z a1 a4 a8 kc9 h0 n0 _ T7.heap _
    rw [e7]
    exact ⟨rfl, N0, rfl⟩
def Q8_13 (Z : State)  (h0 : Heap) (n0 : Nat) (v : Option Value) (h : Heap) (L : List Loc) : Prop := v = some (.int 1) ∧ Fr n0 L ∧ h = h0
set_option maxRecDepth 65536 in
set_option maxHeartbeats 40000000 in
theorem rm8_13 (l : Launch) (Z : State) (a0 : Array Value) (hw : ∀ d ∈ tables_1, d.before a0 Z = true) (ws : List Jvm.Cond)  (h0 : Heap) (n0 : Nat) (Z0 : n0 ≤ h0.size) :
    MetFree l zm4 (head1 (Jvm.Cond.code zm4 jdk_29_method_65_code 2 (some .int) :: ws) ({ frames := 0, cells := 0, slots := 0, locals := 0 } : Room)) (fun a U => a = #[(.int 0), (.int 1)] ∧ Z.Warmed39 U.vm ∧ U.heap = h0) (fun _ _ _ _ _ => True) (fun _ U o U' => ∃ v L, o = .returned v ∧ Q8_13 Z  h0 n0 v U'.heap L ∧ FrameEnd U o U' L ({ frames := 0, cells := 0, slots := 0, locals := 0 } : Room).cells ({ frames := 0, cells := 0, slots := 0, locals := 0 } : Room).slots) := by
  refine MetFree.of_bodySF (Jvm.Free.JP.mathPlain rfl (by decide +kernel)) hisR ?_
  intro p e s m args below meth c s₁ Bd hml0 hP hK
  obtain ⟨rfl, hZ, hh⟩ := hP
  have hx := Bd.exec
  have hby := Bd.bytes
  have hml : c.maxLocals = 2 := hml0
  have hown : s.vm.findClass zs8 = some m.cls := findClass_of_methodNamed Bd.named
  have hnm := (name_of_methodNamed Bd.named Bd.method).1
  have X0 : Stand p l e ({ frames := 0, cells := 0, slots := 0, locals := 0 } : Room) s m #[(.int 0), (.int 1)] below meth c s₁ [] 0 0 := Stand.of_body Bd
  have e0 : s₁.heap = h0 := by rw [← hh, Bd.state]; rfl
  have N0 := Fr.nil n0
  refine own_pre (g' := mkF m 0 (lc16 0 1) []) (ef_4 m (0 : Int32) (1 : Int32)) ?_
  refine own_go (U' := s₁.setTop (mkF m 2 (lc16 0 1) [(.int 1), (.int 0)])) (fun t k => oiloadN X0 hx hby d8_0 rfl (oiloadN X0 hx hby d8_1 rfl k)) ?_
  refine own_go (U' := s₁.setTop (mkF m 10 (lc16 0 1) [(.int 1)])) (fun t k => oicY (pc := 2) X0 hx hby d8_2 9 (by decide) (by decide) (oiloadN X0 hx hby d8_9 rfl k)) ?_
  obtain ⟨fs, hr, hrun, hended, hW, hsame⟩ := X0.leave (v := some (.int 1)) (fun h => by rw [Bd.returns] at h; cases h)
  refine own_out ⟨_, _, ?_, hrun, hended, _, _, rfl, ?_, ⟨_, rfl⟩, hW, hsame.mono (by decide) (by decide)⟩
  · exact retI X0 hx Bd.returns (hb hby d8_10) hr
  · show Q8_13 Z  h0 n0 _ s₁.heap _
    rw [e0]
    exact ⟨rfl, N0, rfl⟩
def Q8_14 (Z : State)  (h0 : Heap) (n0 : Nat) (v : Option Value) (h : Heap) (L : List Loc) : Prop := v = some (.int 0) ∧ Fr n0 L ∧ h = h0
set_option maxRecDepth 65536 in
set_option maxHeartbeats 40000000 in
theorem rm8_14 (l : Launch) (Z : State) (a0 : Array Value) (hw : ∀ d ∈ tables_1, d.before a0 Z = true) (ws : List Jvm.Cond)  (h0 : Heap) (n0 : Nat) (Z0 : n0 ≤ h0.size) :
    MetFree l zm4 (head1 (Jvm.Cond.code zm4 jdk_29_method_65_code 2 (some .int) :: ws) ({ frames := 0, cells := 0, slots := 0, locals := 0 } : Room)) (fun a U => a = #[(.int 0), (.int (-1))] ∧ Z.Warmed39 U.vm ∧ U.heap = h0) (fun _ _ _ _ _ => True) (fun _ U o U' => ∃ v L, o = .returned v ∧ Q8_14 Z  h0 n0 v U'.heap L ∧ FrameEnd U o U' L ({ frames := 0, cells := 0, slots := 0, locals := 0 } : Room).cells ({ frames := 0, cells := 0, slots := 0, locals := 0 } : Room).slots) := by
  refine MetFree.of_bodySF (Jvm.Free.JP.mathPlain rfl (by decide +kernel)) hisR ?_
  intro p e s m args below meth c s₁ Bd hml0 hP hK
  obtain ⟨rfl, hZ, hh⟩ := hP
  have hx := Bd.exec
  have hby := Bd.bytes
  have hml : c.maxLocals = 2 := hml0
  have hown : s.vm.findClass zs8 = some m.cls := findClass_of_methodNamed Bd.named
  have hnm := (name_of_methodNamed Bd.named Bd.method).1
  have X0 : Stand p l e ({ frames := 0, cells := 0, slots := 0, locals := 0 } : Room) s m #[(.int 0), (.int (-1))] below meth c s₁ [] 0 0 := Stand.of_body Bd
  have e0 : s₁.heap = h0 := by rw [← hh, Bd.state]; rfl
  have N0 := Fr.nil n0
  refine own_pre (g' := mkF m 0 (lc16 0 (-1)) []) (ef_4 m (0 : Int32) (-1 : Int32)) ?_
  refine own_go (U' := s₁.setTop (mkF m 2 (lc16 0 (-1)) [(.int (-1)), (.int 0)])) (fun t k => oiloadN X0 hx hby d8_0 rfl (oiloadN X0 hx hby d8_1 rfl k)) ?_
  refine own_go (U' := s₁.setTop (mkF m 10 (lc16 0 (-1)) [(.int 0)])) (fun t k => oicN X0 hx hby d8_2 (by decide) (oiloadN X0 hx hby d8_5 rfl (ogoto (pc := 6) X0 hx hby d8_6 10 (by decide) k))) ?_
  obtain ⟨fs, hr, hrun, hended, hW, hsame⟩ := X0.leave (v := some (.int 0)) (fun h => by rw [Bd.returns] at h; cases h)
  refine own_out ⟨_, _, ?_, hrun, hended, _, _, rfl, ?_, ⟨_, rfl⟩, hW, hsame.mono (by decide) (by decide)⟩
  · exact retI X0 hx Bd.returns (hb hby d8_10) hr
  · show Q8_14 Z  h0 n0 _ s₁.heap _
    rw [e0]
    exact ⟨rfl, N0, rfl⟩
def Q6_15 (Z : State) (a1 : Addr) (q2 : Int64) (a4 : Addr) (a11 : Addr) (q14 : Int64) (kc15 : ClassId) (h0 : Heap) (n0 : Nat) (v : Option Value) (h : Heap) (L : List Loc) : Prop := v = some (.int (-2)) ∧ Fr n0 L ∧ h = h0
set_option maxRecDepth 65536 in
set_option maxHeartbeats 40000000 in
theorem rm6_15 (l : Launch) (Z : State) (a0 : Array Value) (hw : ∀ d ∈ tables_1, d.before a0 Z = true) (ws : List Jvm.Cond) (a1 : Addr) (q2 : Int64) (a4 : Addr) (a11 : Addr) (q14 : Int64) (kc15 : ClassId) (h0 : Heap) (n0 : Nat) (Z0 : n0 ≤ h0.size) (F5 : Fld Z h0 a1 zs2 "side" zs4 (.ref a4)) (F6 : Sta Z h0 zs6 "BUY" zs4 (.ref a4)) (F7 : Exa Z h0 a1 zs2) (F9 : Fld Z h0 a1 zs2 "count" "I" (.int 1)) (F12 : Fld Z h0 a1 zs2 "ranks" "[J" (.ref a11)) (F16 : Arv Z h0 a11 kc15 .long (16 : Int32) [(.long q14)] (.long (0 : Int64))) (hc19 : q14 < q2) (hc22 : ¬ (q2 = (-9223372036854775808 : Int64))) (hc23 : ¬ (q2 = (9223372036854775807 : Int64))) :
    MetFree l zm5 (head1 (Jvm.Cond.code zm5 prog_2_method_8_code 11 (some .int) :: ws) ({ frames := 1, cells := 0, slots := 0, locals := 14 } : Room)) (fun a U => a = #[(.ref a1), (.long q2), .null] ∧ Z.Warmed39 U.vm ∧ U.heap = h0) (fun _ _ _ _ _ => True) (fun _ U o U' => ∃ v L, o = .returned v ∧ Q6_15 Z a1 q2 a4 a11 q14 kc15 h0 n0 v U'.heap L ∧ FrameEnd U o U' L ({ frames := 1, cells := 0, slots := 0, locals := 14 } : Room).cells ({ frames := 1, cells := 0, slots := 0, locals := 14 } : Room).slots) := by
  refine MetFree.of_bodySF (plainFor_of_name pn_com_example_srok_srok_engine_BookSide) hisR ?_
  intro p e s m args below meth c s₁ Bd hml0 hP hK
  obtain ⟨rfl, hZ, hh⟩ := hP
  have hx := Bd.exec
  have hby := Bd.bytes
  have hml : c.maxLocals = 11 := hml0
  have hown : s.vm.findClass zs2 = some m.cls := findClass_of_methodNamed Bd.named
  have hnm := (name_of_methodNamed Bd.named Bd.method).1
  have X0 : Stand p l e ({ frames := 1, cells := 0, slots := 0, locals := 14 } : Room) s m #[(.ref a1), (.long q2), .null] below meth c s₁ [] 0 0 := Stand.of_body Bd
  have e0 : s₁.heap = h0 := by rw [← hh, Bd.state]; rfl
  have N0 := Fr.nil n0
  refine own_pre (g' := mkF m 0 (lc11 a1 q2) []) (ef_5 m a1 q2) ?_
  obtain ⟨_, T3, L3, X3, hQ3, st3⟩ := ocallP X0 hx hZ zm3 hown (ww hw 43 rfl) (ww hw 44 rfl) (own_selP (mvT hZ (ww hw 10 rfl)) (mvP hZ (ww hw 45 rfl)) (mvT hZ (ww hw 44 rfl)) (by decide)) (ww hw 45 rfl) (by decide) (ww hw 46 rfl) (ww hw 11 rfl) e0 F7 (rm7_6 l Z a0 hw [] a1 q2 a4 h0 n0 Z0 F5 F6) (st := [(.long q2), (.ref a1)]) rfl 0 rfl (by decide) (pc := 2) (Ls := (lc11 a1 q2)) hml rfl (lenOf pd_0 rfl) d6_2 hby
  obtain ⟨rfl, N3q, e3⟩ := hQ3
  have N8 := Fr.app N0 N3q
  obtain ⟨T10, X10, e10, st10⟩ := getF X3 hx hZ hown (host := "") (Or.inl (ww hw 32 rfl)) Via.refl e3 F9 (g := (mkF m 8 (lc13 a1 q2 q2) [(.ref a1)])) rfl rfl (hb hby d6_8)
  refine own_go (U' := T10.setTop (mkF m 21 (lc15 a1 q2 q2 1 1) [(.int 0)])) (fun t k => oaloadN X0 hx hby d6_0 rfl rfl (olloadN X0 hx hby d6_1 rfl (st3 _ (olstore X3 hx hby d6_5 (lc13 a1 q2 q2) rfl (oaloadN X3 hx hby d6_7 rfl rfl (st10 _ (oistore X10 hx hby d6_11 (lc14 a1 q2 q2 1) rfl (oiconst X10 hx hby d6_13 (oistore X10 hx hby d6_14 (lc15 a1 q2 q2 1 1) rfl (oiload X10 hx hby d6_16 rfl (oiload X10 hx hby d6_18 rfl (oisub X10 hx hby d6_20 k)))))))))))) ?_
  obtain ⟨T13, X13, e13, st13⟩ := getF X10 hx hZ hown (host := "") (Or.inl (ww hw 23 rfl)) Via.refl e10 F12 (g := (mkF m 25 (lc15 a1 q2 q2 1 1) [(.ref a1)])) rfl rfl (hb hby d6_25)
  obtain ⟨cl17, Ar17, q17, S17, N17, H17, G17⟩ := id F16
  have hin18 : ¬ ((0 : Int32) < 0 ∨ cl17.slots.size ≤ ((0 : Int32)).toNatClampNeg) := inb_of S17 ⟨by decide, by decide⟩
  have hat18 : cl17.slots[((0 : Int32)).toNatClampNeg]? = some (.long q14) := Has.at H17 hin18 rfl
  refine own_go (U' := T13.setTop (mkF m 37 (lc15 a1 q2 q2 1 1) [(.int (lcmpW q14 q2))])) (fun t k => oifN X10 hx hby d6_21 (by decide) (oaloadN X10 hx hby d6_24 rfl rfl (st13 _ (oiload X13 hx hby d6_28 rfl (oiload X13 hx hby d6_30 rfl (oisub X13 hx hby d6_32 (X13.laload hx (j := (0 : Int32)) (v := (.long q14)) (by rw [e13]; exact Ar17.1) (State.isArrayOf_alike hZ.alike Ar17.2.1) Ar17.2.2 hin18 hat18 (g := (mkF m 33 (lc15 a1 q2 q2 1 1) [(.int 0), (.ref a11)])) rfl rfl (hb hby d6_33) _ (olload X13 hx hby d6_34 rfl (olcmp X13 hx hby d6_36 k))))))))) ?_
  obtain ⟨_, T20, L20, X20, hQ20, st20⟩ := ocallS X13 hx hZ zm4 hown (ww hw 48 rfl) (ww hw 49 rfl) (by decide) (ww hw 51 rfl) (ww hw 50 rfl) e13 (rm8_13 l Z a0 hw []  h0 n0 Z0 ) (st := [(.int 1), (.int 0)]) rfl 0 rfl (by decide) (pc := 64) (Ls := (lc15 a1 q2 q2 1 1)) hml rfl (lenOf pd_3 rfl) d6_64 hby
  obtain ⟨rfl, N20q, e20⟩ := hQ20
  have N21 := Fr.app N8 N20q
  refine own_go (U' := T20.setTop (mkF m 79 (lc18 a1 q2 q2 1 1 1 0) [(.int 1), (.int 0)])) (fun t k => oifY (pc := 37) X13 hx hby d6_37 56 (own_ll_lt_t hc19) (by decide) (oiconst X13 hx hby d6_56 (oiload X13 hx hby d6_57 rfl (oiload X13 hx hby d6_59 rfl (oisub X13 hx hby d6_61 (oiconst X13 hx hby d6_62 (oiadd X13 hx hby d6_63 (st20 _ (oistore X20 hx hby d6_67 (lc17 a1 q2 q2 1 1 1) rfl (oiload X20 hx hby d6_69 rfl (oiload X20 hx hby d6_71 rfl (oisub X20 hx hby d6_73 (oistore X20 hx hby d6_74 (lc18 a1 q2 q2 1 1 1 0) rfl (oiload X20 hx hby d6_76 rfl (oiconst X20 hx hby d6_78 k))))))))))))))) ?_
  refine own_go (U' := T20.setTop (mkF m 132 (lc18 a1 q2 q2 1 1 1 0) [(.int 1), (.int 1)])) (fun t k => oicY (pc := 79) X20 hx hby d6_79 128 (by decide) (by decide) (oiload X20 hx hby d6_128 rfl (oiload X20 hx hby d6_130 rfl k))) ?_
  refine own_go (U' := T20.setTop (mkF m 157 (lc18 a1 q2 q2 1 1 1 0) [(.int (lcmpW q2 (-9223372036854775808 : Int64)))])) (fun t k => oicY (pc := 132) X20 hx hby d6_132 151 (by decide) (by decide) (olload X20 hx hby d6_151 rfl (X20.ldc2Long hx hown (mvT hZ (ww hw 52 rfl)) (g := (mkF m 153 (lc18 a1 q2 q2 1 1 1 0) [(.long q2)])) rfl (hb hby d6_153) _ (olcmp X20 hx hby d6_156 k)))) ?_
  refine own_go (U' := T20.setTop (mkF m 166 (lc18 a1 q2 q2 1 1 1 0) [(.int (lcmpW q2 (9223372036854775807 : Int64)))])) (fun t k => oifN X20 hx hby d6_157 (own_ll_eq_f hc22) (olload X20 hx hby d6_160 rfl (X20.ldc2Long hx hown (mvT hZ (ww hw 53 rfl)) (g := (mkF m 162 (lc18 a1 q2 q2 1 1 1 0) [(.long q2)])) rfl (hb hby d6_162) _ (olcmp X20 hx hby d6_165 k)))) ?_
  refine own_go (U' := T20.setTop (mkF m 178 (lc18 a1 q2 q2 1 1 1 1) [(.int 1)])) (fun t k => oifN X20 hx hby d6_166 (own_ll_eq_f hc23) (oiconst X20 hx hby d6_169 (ogoto (pc := 170) X20 hx hby d6_170 174 (by decide) (oistore X20 hx hby d6_174 (lc18 a1 q2 q2 1 1 1 1) rfl (oiload X20 hx hby d6_176 rfl k))))) ?_
  obtain ⟨T24, X24, e24, st24⟩ := getF X20 hx hZ hown (host := "") (Or.inl (ww hw 32 rfl)) Via.refl e20 F9 (g := (mkF m 230 (lc18 a1 q2 q2 1 1 1 1) [(.ref a1), (.int 1)])) rfl rfl (hb hby d6_230)
  refine own_go (U' := T24.setTop (mkF m 233 (lc18 a1 q2 q2 1 1 1 1) [(.int 1), (.int 1)])) (fun t k => oifY (pc := 178) X20 hx hby d6_178 227 (by decide) (by decide) (oiload X20 hx hby d6_227 rfl (oaloadN X20 hx hby d6_229 rfl rfl (st24 _ k)))) ?_
  refine own_go (U' := T24.setTop (mkF m 280 (lc19 a1 q2 q2 1 1 1 1 0) [(.int 0)])) (fun t k => oicY (pc := 233) X24 hx hby d6_233 275 (by decide) (by decide) (oiconst X24 hx hby d6_275 (oistore X24 hx hby d6_276 (lc19 a1 q2 q2 1 1 1 1 0) rfl (oiload X24 hx hby d6_278 rfl k)))) ?_
  refine own_go (U' := T24.setTop (mkF m 292 (lc19 a1 q2 q2 1 1 1 1 0) [(.int ((-1 : Int32) - (1 : Int32)))])) (fun t k => oifY (pc := 280) X24 hx hby d6_280 288 (by decide) (by decide) (oiconst X24 hx hby d6_288 (oiload X24 hx hby d6_289 rfl (oisub X24 hx hby d6_291 k)))) ?_
  rw [show ((-1 : Int32) - (1 : Int32)) = (-2 : Int32) from by decide]
  obtain ⟨fs, hr, hrun, hended, hW, hsame⟩ := X24.leave (v := some (.int (-2))) (fun h => by rw [Bd.returns] at h; cases h)
  refine own_out ⟨_, _, ?_, hrun, hended, _, _, rfl, ?_, ⟨_, rfl⟩, hW, hsame.mono (by decide) (by decide)⟩
  · exact retI X24 hx Bd.returns (hb hby d6_292) hr
  · show Q6_15 Z a1 q2 a4 a11 q14 kc15 h0 n0 _ T24.heap _
    rw [e24]
    exact ⟨rfl, N21, rfl⟩
def Qmg6_16 (Z : State) (a1 : Addr) (q2 : Int64) (a3 : Addr) (a8 : Addr) (q10 : Int64) (kc11 : ClassId) (h0 : Heap) (n0 : Nat) (v : Option Value) (h : Heap) (L : List Loc) : Prop := v = some (.int (-2)) ∧ Fr n0 L ∧ h = h0
theorem mg6_16 (l : Launch) (Z : State) (a0 : Array Value) (hw : ∀ d ∈ tables_1, d.before a0 Z = true) (ws : List Jvm.Cond) (a1 : Addr) (q2 : Int64) (a3 : Addr) (a8 : Addr) (q10 : Int64) (kc11 : ClassId) (h0 : Heap) (n0 : Nat) (Z0 : n0 ≤ h0.size) (F4 : Fld Z h0 a1 zs2 "side" zs4 (.ref a3)) (F5 : Sta Z h0 zs6 "BUY" zs4 (.ref a3)) (F6 : Exa Z h0 a1 zs2) (F7 : Fld Z h0 a1 zs2 "count" "I" (.int 1)) (F9 : Fld Z h0 a1 zs2 "ranks" "[J" (.ref a8)) (F12 : Arv Z h0 a8 kc11 .long (16 : Int32) [(.long q10)] (.long (0 : Int64))) (hc13 : q10 < q2) (hc14 : ¬ (q2 = (-9223372036854775808 : Int64))) (hc15 : ¬ (q2 = (9223372036854775807 : Int64))) :
    MetFree l zm5 (head1 (Jvm.Cond.code zm5 prog_2_method_8_code 11 (some .int) :: ws) ({ frames := 1, cells := 0, slots := 0, locals := 14 } : Room)) (fun a U => a = #[(.ref a1), (.long q2), .null] ∧ Z.Warmed39 U.vm ∧ U.heap = h0) (fun _ _ _ _ _ => True) (fun _ U o U' => ∃ v L, o = .returned v ∧ Qmg6_16 Z a1 q2 a3 a8 q10 kc11 h0 n0 v U'.heap L ∧ FrameEnd U o U' L ({ frames := 1, cells := 0, slots := 0, locals := 14 } : Room).cells ({ frames := 1, cells := 0, slots := 0, locals := 14 } : Room).slots) := by
  exact rm6_15 l Z a0 hw ws a1 q2 a3 a8 q10 kc11 h0 n0 Z0 F4 F5 F6 F7 F9 F12 hc13 hc14 hc15
def Q5_17 (Z : State) (a1 : Addr) (q2 : Int64) (a4 : Addr) (a9 : Addr) (q11 : Int64) (kc12 : ClassId) (a19 : Addr) (a22 : Addr) (kc23 : ClassId) (h0 : Heap) (n0 : Nat) (v : Option Value) (h : Heap) (L : List Loc) : Prop := ∃ b46 : Addr, v = some (.ref b46) ∧ Fr n0 L ∧ Keep h0 h [a19, a9, a1] ∧ h0.size ≤ b46 ∧ Arv Z h a19 kc23 (.object zs1) (16 : Int32) [(.ref a22), (.ref b46)] .null ∧ Arv Z h a9 kc12 .long (16 : Int32) [(.long q11), (.long q2)] (.long (0 : Int64)) ∧ Fld Z h a1 zs2 "side" zs4 (.ref a4) ∧ Fld Z h a1 zs2 "count" "I" (.int 2) ∧ Fld Z h a1 zs2 "ranks" "[J" (.ref a9) ∧ Fld Z h a1 zs2 "levels" zs3 (.ref a19) ∧ Fld Z h a1 zs2 "emptyLevels" "I" (.int 0) ∧ Exa Z h b46 zs1 ∧ Fld Z h b46 zs1 "price" zs10 .null ∧ Fld Z h b46 zs1 "priceSteps" "J" (.long q2) ∧ Fld Z h b46 zs1 "first" zs11 .null
set_option maxRecDepth 65536 in
set_option maxHeartbeats 40000000 in
theorem rm5_17 (l : Launch) (Z : State) (a0 : Array Value) (hw : ∀ d ∈ tables_1, d.before a0 Z = true) (ws : List Jvm.Cond) (a1 : Addr) (q2 : Int64) (a4 : Addr) (a9 : Addr) (q11 : Int64) (kc12 : ClassId) (a19 : Addr) (a22 : Addr) (kc23 : ClassId) (h0 : Heap) (n0 : Nat) (Z0 : n0 ≤ h0.size) (F5 : Fld Z h0 a1 zs2 "side" zs4 (.ref a4)) (F6 : Sta Z h0 zs6 "BUY" zs4 (.ref a4)) (F7 : Exa Z h0 a1 zs2) (F8 : Fld Z h0 a1 zs2 "count" "I" (.int 1)) (F10 : Fld Z h0 a1 zs2 "ranks" "[J" (.ref a9)) (F13 : Arv Z h0 a9 kc12 .long (16 : Int32) [(.long q11)] (.long (0 : Int64))) (hc14 : q11 < q2) (hc15 : ¬ (q2 = (-9223372036854775808 : Int64))) (hc16 : ¬ (q2 = (9223372036854775807 : Int64))) (F20 : Fld Z h0 a1 zs2 "levels" zs3 (.ref a19)) (F24 : Arv Z h0 a19 kc23 (.object zs1) (16 : Int32) [(.ref a22)] .null) (g31 : n0 ≤ a19) (O32 : Ovr Z kc23 zs1) (ne34 : a1 ≠ a19) (ne41 : a9 ≠ a19) (g44 : n0 ≤ a9) (ne56 : a1 ≠ a9) (F82 : Fld Z h0 a1 zs2 "emptyLevels" "I" (.int 0)) (g85 : n0 ≤ a1) :
    MetFree l zm7 (head1 (Jvm.Cond.code zm7 prog_2_method_5_code 7 (some (.object zs1)) :: ws) ({ frames := 2, cells := 1, slots := 4, locals := 36 } : Room)) (fun a U => a = #[(.ref a1), (.long q2), .null] ∧ Z.Warmed39 U.vm ∧ U.heap = h0) (fun _ _ _ _ _ => True) (fun _ U o U' => ∃ v L, o = .returned v ∧ Q5_17 Z a1 q2 a4 a9 q11 kc12 a19 a22 kc23 h0 n0 v U'.heap L ∧ FrameEnd U o U' L ({ frames := 2, cells := 1, slots := 4, locals := 36 } : Room).cells ({ frames := 2, cells := 1, slots := 4, locals := 36 } : Room).slots) := by
  refine MetFree.of_bodySF (plainFor_of_name pn_com_example_srok_srok_engine_BookSide) hisR ?_
  intro p e s m args below meth c s₁ Bd hml0 hP hK
  obtain ⟨rfl, hZ, hh⟩ := hP
  have hx := Bd.exec
  have hby := Bd.bytes
  have hml : c.maxLocals = 7 := hml0
  have hown : s.vm.findClass zs2 = some m.cls := findClass_of_methodNamed Bd.named
  have hnm := (name_of_methodNamed Bd.named Bd.method).1
  have X0 : Stand p l e ({ frames := 2, cells := 1, slots := 4, locals := 36 } : Room) s m #[(.ref a1), (.long q2), .null] below meth c s₁ [] 0 0 := Stand.of_body Bd
  have e0 : s₁.heap = h0 := by rw [← hh, Bd.state]; rfl
  have N0 := Fr.nil n0
  refine own_pre (g' := mkF m 0 (lc10 a1 q2) []) (ef_7 m a1 q2) ?_
  obtain ⟨_, T3, L3, X3, hQ3, st3⟩ := ocallP X0 hx hZ zm5 hown (ww hw 39 rfl) (ww hw 40 rfl) (own_selP (mvT hZ (ww hw 10 rfl)) (mvP hZ (ww hw 41 rfl)) (mvT hZ (ww hw 40 rfl)) (by decide)) (ww hw 41 rfl) (by decide) (ww hw 42 rfl) (ww hw 11 rfl) e0 F7 (mg6_16 l Z a0 hw [] a1 q2 a4 a9 q11 kc12 h0 n0 Z0 F5 F6 F7 F8 F10 F13 hc14 hc15 hc16) (st := [.null, (.long q2), (.ref a1)]) rfl 0 rfl (by decide) (pc := 3) (Ls := (lc10 a1 q2)) hml rfl (lenOf pd_4 rfl) d5_3 hby
  obtain ⟨rfl, N3q, e3⟩ := hQ3
  have N17 := Fr.app N0 N3q
  refine own_go (U' := T3.setTop (mkF m 10 (lc20 a1 q2 (-2)) [(.int (-2))])) (fun t k => oaloadN X0 hx hby d5_0 rfl rfl (olloadN X0 hx hby d5_1 rfl (oaloadN X0 hx hby d5_2 rfl rfl (st3 _ (oistore X3 hx hby d5_6 (lc20 a1 q2 (-2)) rfl (oiload X3 hx hby d5_8 rfl k)))))) ?_
  refine own_go (U' := T3.setTop (mkF m 47 (lc20 a1 q2 (-2)) [(.int (-(-2 : Int32)))])) (fun t k => oifY (pc := 10) X3 hx hby d5_10 44 (by decide) (by decide) (oiload X3 hx hby d5_44 rfl (oineg X3 hx hby d5_46 k))) ?_
  rw [show (-(-2 : Int32)) = (2 : Int32) from by decide]
  obtain ⟨T18, X18, e18, st18⟩ := getF X3 hx hZ hown (host := "") (Or.inl (ww hw 32 rfl)) Via.refl e3 F8 (g := (mkF m 52 (lc21 a1 q2 (-2) 1) [(.ref a1)])) rfl rfl (hb hby d5_52)
  obtain ⟨T21, X21, e21, st21⟩ := getF X18 hx hZ hown (host := "") (Or.inl (ww hw 20 rfl)) Via.refl e18 F20 (g := (mkF m 56 (lc21 a1 q2 (-2) 1) [(.ref a1), (.int 1)])) rfl rfl (hb hby d5_56)
  refine own_go (U' := T21.setTop (mkF m 59 (lc21 a1 q2 (-2) 1) [(.ref a19), (.int 1)])) (fun t k => oiconst X3 hx hby d5_47 (oisub X3 hx hby d5_48 (oistore X3 hx hby d5_49 (lc21 a1 q2 (-2) 1) rfl (oaloadN X3 hx hby d5_51 rfl rfl (st18 _ (oaloadN X18 hx hby d5_55 rfl rfl (st21 _ k))))))) ?_
  obtain ⟨cl25, Ar25, q25, S25, N25, H25, G25⟩ := id F24
  refine own_go (fun t k => X21.arraylength hx (by rw [e21]; exact Ar25.1) (State.isArrayOf_alike hZ.alike Ar25.2.1) (g := (mkF m 59 (lc21 a1 q2 (-2) 1) [(.ref a19), (.int 1)])) rfl rfl (hb hby d5_59) _ k) ?_
  rw [len_of S25 N25]
  obtain ⟨T26, X26, e26, st26⟩ := getF X21 hx hZ hown (host := "") (Or.inl (ww hw 20 rfl)) Via.refl e21 F20 (g := (mkF m 101 (lc21 a1 q2 (-2) 1) [(.ref a1)])) rfl rfl (hb hby d5_101)
  obtain ⟨T27, X27, e27, st27⟩ := getF X26 hx hZ hown (host := "") (Or.inl (ww hw 20 rfl)) Via.refl e26 F20 (g := (mkF m 107 (lc21 a1 q2 (-2) 1) [(.ref a1), (.int 1), (.ref a19)])) rfl rfl (hb hby d5_107)
  obtain ⟨T28, X28, e28, st28⟩ := getF X27 hx hZ hown (host := "") (Or.inl (ww hw 32 rfl)) Via.refl e27 F8 (g := (mkF m 115 (lc21 a1 q2 (-2) 1) [(.ref a1), (.int 2), (.ref a19), (.int 1), (.ref a19)])) rfl rfl (hb hby d5_115)
  have f30 : Arv Z h0 a19 kc23 (.object zs1) (16 : Int32) [(.ref a22), .null] .null := F24.pad (pad_rep [(.ref a22)] .null 1)
  obtain ⟨cl29, Ar29, q29, -⟩ := id f30
  obtain ⟨T29, h29, L29, X29, e29, N29, K29, V29, st29⟩ := cpA X28 hx hZ hown (ww hw 54 rfl) (ww hw 57 rfl) (ww hw 55 rfl) (ww hw 56 rfl) e28 (us := []) f30 f30 (Or.inr ⟨rfl, rfl, trivial⟩) (by decide) (by decide) (by decide) (by decide) (by decide) rfl (Nat.le_of_ble_eq_true rfl) N17 g31 (g := (mkF m 121 (lc21 a1 q2 (-2) 1) [(.int 0), (.int 2), (.ref a19), (.int 1), (.ref a19)])) rfl (by rw [hml]; rfl) rfl (hb hby d5_121) (by decide) (W := 0) (by show 2 * 0 + _ ≤ _; exact Nat.le_of_eq rfl) (by decide)
  have f33 : Arv Z h29 a19 kc23 (.object zs1) (16 : Int32) [(.ref a22), .null] .null := V29
  have f35 : Fld Z h29 a1 zs2 "ranks" "[J" (.ref a9) := (F10.keep K29 (ninS ne34 nin0))
  obtain ⟨T36, X36, e36, st36⟩ := getF X29 hx hZ hown (host := "") (Or.inl (ww hw 23 rfl)) Via.refl e29 f35 (g := (mkF m 125 (lc21 a1 q2 (-2) 1) [(.ref a1)])) rfl rfl (hb hby d5_125)
  obtain ⟨T37, X37, e37, st37⟩ := getF X36 hx hZ hown (host := "") (Or.inl (ww hw 23 rfl)) Via.refl e36 f35 (g := (mkF m 131 (lc21 a1 q2 (-2) 1) [(.ref a1), (.int 1), (.ref a9)])) rfl rfl (hb hby d5_131)
  have f38 : Fld Z h29 a1 zs2 "count" "I" (.int 1) := (F8.keep K29 (ninS ne34 nin0))
  obtain ⟨T39, X39, e39, st39⟩ := getF X37 hx hZ hown (host := "") (Or.inl (ww hw 32 rfl)) Via.refl e37 f38 (g := (mkF m 139 (lc21 a1 q2 (-2) 1) [(.ref a1), (.int 2), (.ref a9), (.int 1), (.ref a9)])) rfl rfl (hb hby d5_139)
  have f42 : Arv Z h29 a9 kc12 .long (16 : Int32) [(.long q11)] (.long (0 : Int64)) := (F13.keep K29 (ninS ne41 nin0))
  have f43 : Arv Z h29 a9 kc12 .long (16 : Int32) [(.long q11), (.long 0)] (.long (0 : Int64)) := f42.pad (pad_rep [(.long q11)] (.long (0 : Int64)) 1)
  obtain ⟨T40, h40, L40, X40, e40, N40, K40, V40, st40⟩ := cpA X39 hx hZ hown (ww hw 54 rfl) (ww hw 57 rfl) (ww hw 55 rfl) (ww hw 56 rfl) e39 (us := []) f43 f43 (Or.inl ⟨rfl, rfl⟩) (by decide) (by decide) (by decide) (by decide) (by decide) rfl (Nat.le_of_ble_eq_true rfl) N29 g44 (g := (mkF m 145 (lc21 a1 q2 (-2) 1) [(.int 0), (.int 2), (.ref a9), (.int 1), (.ref a9)])) rfl (by rw [hml]; rfl) rfl (hb hby d5_145) (by decide) (W := 0) (by show 2 * 0 + _ ≤ _; exact Nat.le_of_eq rfl) (by decide)
  have f45 : Arv Z h40 a9 kc12 .long (16 : Int32) [(.long q11), (.long 0)] (.long (0 : Int64)) := V40
  obtain ⟨T46, h46, X46, e46, E46, A46, D46, -, st46⟩ := newO X40 hx hZ hown (ww hw 18 rfl) (ww hw 58 rfl) (ww hw 59 rfl) e40 (g := (mkF m 148 (lc21 a1 q2 (-2) 1) [])) rfl (hb hby d5_148) (by decide) (by decide)
  obtain ⟨b46, g46⟩ : ∃ z, z = h40.size := ⟨_, rfl⟩
  rw [← g46] at A46 D46 st46
  have f47 : Fld Z h46 b46 zs1 "price" zs10 .null := D46 (Or.inr (ww hw 65 rfl)) (ty := (.object zs13)) (by decide)
  have f48 : Fld Z h46 b46 zs1 "priceSteps" "J" (.long 0) := D46 (Or.inr (ww hw 67 rfl)) (ty := .long) (by decide)
  have f49 : Fld Z h46 b46 zs1 "first" zs11 .null := D46 (Or.inl (ww hw 78 rfl)) (ty := (.object zs14)) (by decide)
  have Z_1 : n0 ≤ h29.size := Nat.le_trans Z0 K29.1
  have Z_2 : n0 ≤ h40.size := Nat.le_trans Z_1 K40.1
  have g51 : n0 ≤ b46 := Nat.le_trans Z_2 (Nat.le_of_eq g46.symm)
  have Z_3 : n0 ≤ h46.size := Nat.le_trans Z_2 E46.1
  obtain ⟨_, T50, L50, X50, hQ50, st50⟩ := ocallI X46 hx hZ zm6 rfl hown (ww hw 60 rfl) (ww hw 61 rfl) (by decide) (ww hw 62 rfl) (ww hw 59 rfl) e46 (rm9_10 l Z a0 hw [] b46 q2 h46 n0 Z_3 f47 f48 f49 A46 g51) (st := [(.long q2), .null, (.ref b46), (.ref b46)]) rfl 1 rfl (by decide) (pc := 154) (Ls := (lc21 a1 q2 (-2) 1)) hml rfl (lenOf pd_5 rfl) d5_154 hby
  obtain ⟨rfl, N50q, K50, f52, f53, f54⟩ := hQ50
  have N55 := Fr.app N40 N50q
  have ne57 : a1 ≠ b46 := Nat.ne_of_lt (Nat.lt_of_lt_of_le (Nat.lt_of_lt_of_le (Nat.lt_of_lt_of_le (F5.lt) K29.1) K40.1) (Nat.le_of_eq g46.symm))
  have f58 : Fld Z T50.heap a1 zs2 "levels" zs3 (.ref a19) := ((Fld.ext E46 ((F20.keep K29 (ninS ne34 nin0)).keep K40 (ninS ne56 nin0))).keep K50 (ninS ne57 nin0))
  obtain ⟨T59, X59, e59, st59⟩ := getF X50 hx hZ hown (host := "") (Or.inl (ww hw 20 rfl)) Via.refl rfl f58 (g := (mkF m 160 (lc23 a1 q2 (-2) 1 b46) [(.ref a1)])) rfl rfl (hb hby d5_160)
  have ne60 : a19 ≠ b46 := Nat.ne_of_lt (Nat.lt_of_lt_of_le (Nat.lt_of_lt_of_le (f33.lt) K40.1) (Nat.le_of_eq g46.symm))
  have f61 : Arv Z T50.heap a19 kc23 (.object zs1) (16 : Int32) [(.ref a22), .null] .null := (((f33.keep K40 (ninS (Ne.symm ne41) nin0)).ext E46).keep K50 (ninS ne60 nin0))
  have f62 : Exa Z T50.heap b46 zs1 := (A46.keep K50)
  obtain ⟨cl63, Ar63, q63, S63, N63, H63, G63⟩ := id f61
  have hin64 : ¬ ((1 : Int32) < 0 ∨ cl63.slots.size ≤ ((1 : Int32)).toNatClampNeg) := inb_of S63 ⟨by decide, by decide⟩
  obtain ⟨T64, h64, X64, e64, W64, st64⟩ := stR X59 hx hZ e59 Ar63 (j := (1 : Int32)) hin64 rfl (Sto.ofV Ar63 q63 O32 (Ins.self f62)) (g := (mkF m 167 (lc23 a1 q2 (-2) 1 b46) [(.ref b46), (.int 1), (.ref a19)])) rfl rfl (hb hby d5_167)
  have N65 := Fr.snoc X64 N55 g31
  have f66 : Arv Z h64 a19 kc23 (.object zs1) (16 : Int32) [(.ref a22), (.ref b46)] .null := Arv.set Ar63 q63 S63 N63 H63 G63 (by rfl) W64 1 rfl (Nat.le_of_ble_eq_true rfl)
  have f67 : Fld Z h64 a1 zs2 "ranks" "[J" (.ref a9) := (Fld.other W64 ((Fld.ext E46 (f35.keep K40 (ninS ne56 nin0))).keep K50 (ninS ne57 nin0)) (Or.inl ne34))
  obtain ⟨T68, X68, e68, st68⟩ := getF X64 hx hZ hown (host := "") (Or.inl (ww hw 23 rfl)) Via.refl e64 f67 (g := (mkF m 169 (lc23 a1 q2 (-2) 1 b46) [(.ref a1)])) rfl rfl (hb hby d5_169)
  have f70 : Fld Z h64 a1 zs2 "side" zs4 (.ref a4) := (Fld.other W64 ((Fld.ext E46 ((F5.keep K29 (ninS ne34 nin0)).keep K40 (ninS ne56 nin0))).keep K50 (ninS ne57 nin0)) (Or.inl ne34))
  have f71 : Sta Z h64 zs6 "BUY" zs4 (.ref a4) := (Sta.wr W64 (own_staK (Sta.ext E46 (own_staK (own_staK F6 K29 (allS (own_nsV f30) all0)) K40 (allS (own_nsV f43) all0))) K50 (allS (own_nsF f47) all0)))
  have Z_4 : n0 ≤ T50.heap.size := Nat.le_trans Z_3 K50.1
  have Z_5 : n0 ≤ h64.size := Nat.le_trans Z_4 (Keep.of_wr W64).1
  have f72 : Exa Z h64 a1 zs2 := (Exa.wr W64 ((Exa.ext E46 ((F7.keep K29).keep K40)).keep K50))
  obtain ⟨_, T69, L69, X69, hQ69, st69⟩ := ocallP X68 hx hZ zm3 hown (ww hw 43 rfl) (ww hw 44 rfl) (own_selP (mvT hZ (ww hw 10 rfl)) (mvP hZ (ww hw 45 rfl)) (mvT hZ (ww hw 44 rfl)) (by decide)) (ww hw 45 rfl) (by decide) (ww hw 46 rfl) (ww hw 11 rfl) e68 f72 (rm7_6 l Z a0 hw [] a1 q2 a4 h64 n0 Z_5 f70 f71) (st := [(.long q2), (.ref a1), (.int 1), (.ref a9)]) rfl 2 rfl (by decide) (pc := 176) (Ls := (lc23 a1 q2 (-2) 1 b46)) hml rfl (lenOf pd_0 rfl) d5_176 hby
  obtain ⟨rfl, N69q, e69⟩ := hQ69
  have N73 := Fr.app N65 N69q
  have ne74 : a9 ≠ b46 := Nat.ne_of_lt (Nat.lt_of_lt_of_le (f45.lt) (Nat.le_of_eq g46.symm))
  have f75 : Arv Z h64 a9 kc12 .long (16 : Int32) [(.long q11), (.long 0)] (.long (0 : Int64)) := (((f45.ext E46).keep K50 (ninS ne74 nin0)).other W64 ne41)
  obtain ⟨cl76, Ar76, q76, S76, N76, H76, G76⟩ := id f75
  have hin77 : ¬ ((1 : Int32) < 0 ∨ cl76.slots.size ≤ ((1 : Int32)).toNatClampNeg) := inb_of S76 ⟨by decide, by decide⟩
  obtain ⟨T77, h77, X77, e77, W77, st77⟩ := stJ X69 hx hZ e69 Ar76 (j := (1 : Int32)) hin77 (g := (mkF m 179 (lc23 a1 q2 (-2) 1 b46) [(.long q2), (.int 1), (.ref a9)])) rfl rfl (hb hby d5_179)
  have N78 := Fr.snoc X77 N73 g44
  have f79 : Arv Z h77 a9 kc12 .long (16 : Int32) [(.long q11), (.long q2)] (.long (0 : Int64)) := Arv.set Ar76 q76 S76 N76 H76 G76 (by rfl) W77 1 rfl (Nat.le_of_ble_eq_true rfl)
  have f80 : Fld Z h77 a1 zs2 "count" "I" (.int 1) := (Fld.other W77 (Fld.other W64 ((Fld.ext E46 (f38.keep K40 (ninS ne56 nin0))).keep K50 (ninS ne57 nin0)) (Or.inl ne34)) (Or.inl ne56))
  obtain ⟨T81, X81, e81, st81⟩ := getF X77 hx hZ hown (host := "") (Or.inl (ww hw 32 rfl)) Via.refl e77 f80 (g := (mkF m 182 (lc23 a1 q2 (-2) 1 b46) [(.ref a1), (.ref a1)])) rfl rfl (hb hby d5_182)
  have f83 : Exa Z h77 a1 zs2 := (Exa.wr W77 f72)
  obtain ⟨T84, h84, X84, e84, W84, st84⟩ := putF X81 hx hZ hown (host := "") (Or.inl (ww hw 32 rfl)) Via.refl e81 f80 f83 (Or.inl (ww hw 33 rfl)) (ww hw 10 rfl) (ty := .int) (by decide) rfl rfl (g := (mkF m 187 (lc23 a1 q2 (-2) 1 b46) [(.int 2), (.ref a1)])) rfl rfl (hb hby d5_187)
  have N86 := Fr.snoc X84 N78 g85
  have f87 : Fld Z h84 a1 zs2 "count" "I" (.int 2) := Fld.same W84 f80
  refine own_go (U' := T84.setTop (mkF m 192 (lc23 a1 q2 (-2) 1 b46) [(.ref b46)])) (fun t k => oicY (pc := 60) X21 hx hby d5_60 100 (by decide) (by decide) (oaloadN X21 hx hby d5_100 rfl rfl (st26 _ (oiload X26 hx hby d5_104 rfl (oaloadN X26 hx hby d5_106 rfl rfl (st27 _ (oiload X27 hx hby d5_110 rfl (oiconst X27 hx hby d5_112 (oiadd X27 hx hby d5_113 (oaloadN X27 hx hby d5_114 rfl rfl (st28 _ (oiload X28 hx hby d5_118 rfl (oisub X28 hx hby d5_120 (st29 _ (oaloadN X29 hx hby d5_124 rfl rfl (st36 _ (oiload X36 hx hby d5_128 rfl (oaloadN X36 hx hby d5_130 rfl rfl (st37 _ (oiload X37 hx hby d5_134 rfl (oiconst X37 hx hby d5_136 (oiadd X37 hx hby d5_137 (oaloadN X37 hx hby d5_138 rfl rfl (st39 _ (oiload X39 hx hby d5_142 rfl (oisub X39 hx hby d5_144 (st40 _ (st46 _ (odup X46 hx hby d5_151 rfl (oaloadN X46 hx hby d5_152 rfl rfl (olloadN X46 hx hby d5_153 rfl (st50 _ (oastore X50 hx hby d5_157 (lc23 a1 q2 (-2) 1 b46) rfl rfl (oaloadN X50 hx hby d5_159 rfl rfl (st59 _ (oiload X59 hx hby d5_163 rfl (oaload X59 hx hby d5_165 rfl rfl (st64 _ (oaloadN X64 hx hby d5_168 rfl rfl (st68 _ (oiload X68 hx hby d5_172 rfl (oaloadN X68 hx hby d5_174 rfl rfl (olloadN X68 hx hby d5_175 rfl (st69 _ (st77 _ (oaloadN X77 hx hby d5_180 rfl rfl (odup X77 hx hby d5_181 rfl (st81 _ (oiconst X81 hx hby d5_185 (oiadd X81 hx hby d5_186 (st84 _ (oaload X84 hx hby d5_190 rfl rfl k)))))))))))))))))))))))))))))))))))))))))))))))))))) ?_
  have f88 : Arv Z h84 a19 kc23 (.object zs1) (16 : Int32) [(.ref a22), (.ref b46)] .null := ((f66.other W77 (Ne.symm ne41)).other W84 (Ne.symm ne34))
  have f89 : Arv Z h84 a9 kc12 .long (16 : Int32) [(.long q11), (.long q2)] (.long (0 : Int64)) := (f79.other W84 (Ne.symm ne56))
  have f90 : Fld Z h84 a1 zs2 "side" zs4 (.ref a4) := (Fld.other W84 (Fld.other W77 f70 (Or.inl ne56)) (Or.inr (slot_ne (Or.inr (ww hw 26 rfl)) (Or.inl (ww hw 33 rfl)) (by decide) (t := (.object zs6)) (t' := .int) (by decide) (by decide))))
  have f91 : Fld Z h84 a1 zs2 "ranks" "[J" (.ref a9) := (Fld.other W84 (Fld.other W77 f67 (Or.inl ne56)) (Or.inr (slot_ne (Or.inl (ww hw 24 rfl)) (Or.inl (ww hw 33 rfl)) (by decide) (t := (.array .long)) (t' := .int) (by decide) (by decide))))
  have f92 : Fld Z h84 a1 zs2 "levels" zs3 (.ref a19) := (Fld.other W84 (Fld.other W77 (Fld.other W64 f58 (Or.inl ne34)) (Or.inl ne56)) (Or.inr (slot_ne (Or.inl (ww hw 21 rfl)) (Or.inl (ww hw 33 rfl)) (by decide) (t := (.array (.object zs1))) (t' := .int) (by decide) (by decide))))
  have f93 : Fld Z h84 a1 zs2 "emptyLevels" "I" (.int 0) := (Fld.other W84 (Fld.other W77 (Fld.other W64 ((Fld.ext E46 ((F82.keep K29 (ninS ne34 nin0)).keep K40 (ninS ne56 nin0))).keep K50 (ninS ne57 nin0)) (Or.inl ne34)) (Or.inl ne56)) (Or.inr (slot_ne (Or.inl (ww hw 80 rfl)) (Or.inl (ww hw 33 rfl)) (by decide) (t := .int) (t' := .int) (by decide) (by decide))))
  have f94 : Exa Z h84 b46 zs1 := (Exa.wr W84 (Exa.wr W77 (Exa.wr W64 f62)))
  have f95 : Fld Z h84 b46 zs1 "price" zs10 .null := (Fld.other W84 (Fld.other W77 (Fld.other W64 f52 (Or.inl (Ne.symm ne60))) (Or.inl (Ne.symm ne74))) (Or.inl (Ne.symm ne57)))
  have f96 : Fld Z h84 b46 zs1 "priceSteps" "J" (.long q2) := (Fld.other W84 (Fld.other W77 (Fld.other W64 f53 (Or.inl (Ne.symm ne60))) (Or.inl (Ne.symm ne74))) (Or.inl (Ne.symm ne57)))
  have f97 : Fld Z h84 b46 zs1 "first" zs11 .null := (Fld.other W84 (Fld.other W77 (Fld.other W64 f54 (Or.inl (Ne.symm ne60))) (Or.inl (Ne.symm ne74))) (Or.inl (Ne.symm ne57)))
  obtain ⟨fs, hr, hrun, hended, hW, hsame⟩ := X84.leave (v := some (.ref b46)) (fun h => by rw [Bd.returns] at h; cases h)
  refine own_out ⟨_, _, ?_, hrun, hended, _, _, rfl, ?_, ⟨_, rfl⟩, hW, hsame.mono (by decide) (by decide)⟩
  · exact retOut X84 hx Bd.returns rfl (Or.inr (Or.inr (Or.inr (Or.inr ⟨rfl, rfl, rfl⟩)))) (hb hby d5_192) hr
  · show Q5_17 Z a1 q2 a4 a9 q11 kc12 a19 a22 kc23 h0 n0 _ T84.heap _
    rw [e84]
    exact ⟨b46, rfl, N86, ((((Keep.trans ((Keep.trans (Keep.trans (Keep.refl h0 [a19, a9, a1]) K29 (allS (Or.inl (List.mem_of_getElem? (i := 0) rfl)) all0)) K40 (allS (Or.inl (List.mem_of_getElem? (i := 1) rfl)) all0)).ext E46) K50 (allS (Or.inr (Nat.le_trans K29.1 (Nat.le_trans K40.1 (Nat.le_of_eq g46.symm)))) all0)).wr W64 (Or.inl (List.mem_of_getElem? (i := 0) rfl))).wr W77 (Or.inl (List.mem_of_getElem? (i := 1) rfl))).wr W84 (Or.inl (List.mem_of_getElem? (i := 2) rfl))), (Nat.le_trans K29.1 (Nat.le_trans K40.1 (Nat.le_of_eq g46.symm))), f88, f89, f90, f87, f91, f92, f93, f94, f95, f96, f97⟩
def Q10_18 (Z : State) (q1 : Int64) (q2 : Int64) (h0 : Heap) (n0 : Nat) (v : Option Value) (h : Heap) (L : List Loc) : Prop := v = some (.int 1) ∧ Fr n0 L ∧ h = h0
set_option maxRecDepth 65536 in
set_option maxHeartbeats 40000000 in
theorem rm10_18 (l : Launch) (Z : State) (a0 : Array Value) (hw : ∀ d ∈ tables_1, d.before a0 Z = true) (ws : List Jvm.Cond) (q1 : Int64) (q2 : Int64) (h0 : Heap) (n0 : Nat) (Z0 : n0 ≤ h0.size) (hc3 : q2 < q1) :
    MetFree l zm8 (head1 (Jvm.Cond.code zm8 method_3_code 5 (some .boolean) :: ws) ({ frames := 0, cells := 0, slots := 0, locals := 0 } : Room)) (fun a U => a = #[(.int 1), (.long q1), (.long q2)] ∧ Z.Warmed39 U.vm ∧ U.heap = h0) (fun _ _ _ _ _ => True) (fun _ U o U' => ∃ v L, o = .returned v ∧ Q10_18 Z q1 q2 h0 n0 v U'.heap L ∧ FrameEnd U o U' L ({ frames := 0, cells := 0, slots := 0, locals := 0 } : Room).cells ({ frames := 0, cells := 0, slots := 0, locals := 0 } : Room).slots) := by
  refine MetFree.of_bodySF (plainFor_of_name pn_com_example_srok_srok_engine_BookSideBestPinLaw) hisR ?_
  intro p e s m args below meth c s₁ Bd hml0 hP hK
  obtain ⟨rfl, hZ, hh⟩ := hP
  have hx := Bd.exec
  have hby := Bd.bytes
  have hml : c.maxLocals = 5 := hml0
  have hown : s.vm.findClass zs0 = some m.cls := findClass_of_methodNamed Bd.named
  have hnm := (name_of_methodNamed Bd.named Bd.method).1
  have X0 : Stand p l e ({ frames := 0, cells := 0, slots := 0, locals := 0 } : Room) s m #[(.int 1), (.long q1), (.long q2)] below meth c s₁ [] 0 0 := Stand.of_body Bd
  have e0 : s₁.heap = h0 := by rw [← hh, Bd.state]; rfl
  have N0 := Fr.nil n0
  refine own_pre (g' := mkF m 0 (lc26 1 q1 q2) []) (ef_8 m (1 : Int32) q1 q2) ?_
  refine own_go (U' := s₁.setTop (mkF m 1 (lc26 1 q1 q2) [(.int 1)])) (fun t k => oiloadN X0 hx hby d10_0 rfl k) ?_
  refine own_go (U' := s₁.setTop (mkF m 7 (lc26 1 q1 q2) [(.int (lcmpW q1 q2))])) (fun t k => oifN X0 hx hby d10_1 (by decide) (olloadN X0 hx hby d10_4 rfl (olloadN X0 hx hby d10_5 rfl (olcmp X0 hx hby d10_6 k)))) ?_
  refine own_go (U' := s₁.setTop (mkF m 29 (lc26 1 q1 q2) [(.int 1)])) (fun t k => oifN X0 hx hby d10_7 (own_ll_le_f hc3) (oiconst X0 hx hby d10_10 (ogoto (pc := 11) X0 hx hby d10_11 29 (by decide) k))) ?_
  obtain ⟨fs, hr, hrun, hended, hW, hsame⟩ := X0.leave (v := some (.int 1)) (fun h => by rw [Bd.returns] at h; cases h)
  refine own_out ⟨_, _, ?_, hrun, hended, _, _, rfl, ?_, ⟨_, rfl⟩, hW, hsame.mono (by decide) (by decide)⟩
  · exact retN X0 hx (t := .boolean) Bd.returns (by simp) (hb hby d10_29) hr
  · show Q10_18 Z q1 q2 h0 n0 _ s₁.heap _
    rw [e0]
    exact ⟨rfl, N0, rfl⟩
def Q4_19 (Z : State) (a1 : Addr) (a4 : Addr) (a8 : Addr) (a9 : Addr) (kc10 : ClassId) (h0 : Heap) (n0 : Nat) (v : Option Value) (h : Heap) (L : List Loc) : Prop := v = some (.ref a9) ∧ Fr n0 L ∧ h = h0
set_option maxRecDepth 65536 in
set_option maxHeartbeats 40000000 in
theorem rm4_19 (l : Launch) (Z : State) (a0 : Array Value) (hw : ∀ d ∈ tables_1, d.before a0 Z = true) (ws : List Jvm.Cond) (a1 : Addr) (a4 : Addr) (a8 : Addr) (a9 : Addr) (kc10 : ClassId) (h0 : Heap) (n0 : Nat) (Z0 : n0 ≤ h0.size) (F2 : Fld Z h0 a1 zs2 "count" "I" (.int 2)) (F5 : Fld Z h0 a1 zs2 "levels" zs3 (.ref a4)) (F11 : Arv Z h0 a4 kc10 (.object zs1) (16 : Int32) [(.ref a8), (.ref a9)] .null) :
    MetFree l zm2 (head1 (Jvm.Cond.code zm2 prog_2_method_3_code 1 (some (.object zs1)) :: ws) ({ frames := 0, cells := 0, slots := 0, locals := 0 } : Room)) (fun a U => a = #[(.ref a1)] ∧ Z.Warmed39 U.vm ∧ U.heap = h0) (fun _ _ _ _ _ => True) (fun _ U o U' => ∃ v L, o = .returned v ∧ Q4_19 Z a1 a4 a8 a9 kc10 h0 n0 v U'.heap L ∧ FrameEnd U o U' L ({ frames := 0, cells := 0, slots := 0, locals := 0 } : Room).cells ({ frames := 0, cells := 0, slots := 0, locals := 0 } : Room).slots) := by
  refine MetFree.of_bodySF (plainFor_of_name pn_com_example_srok_srok_engine_BookSide) hisR ?_
  intro p e s m args below meth c s₁ Bd hml0 hP hK
  obtain ⟨rfl, hZ, hh⟩ := hP
  have hx := Bd.exec
  have hby := Bd.bytes
  have hml : c.maxLocals = 1 := hml0
  have hown : s.vm.findClass zs2 = some m.cls := findClass_of_methodNamed Bd.named
  have hnm := (name_of_methodNamed Bd.named Bd.method).1
  have X0 : Stand p l e ({ frames := 0, cells := 0, slots := 0, locals := 0 } : Room) s m #[(.ref a1)] below meth c s₁ [] 0 0 := Stand.of_body Bd
  have e0 : s₁.heap = h0 := by rw [← hh, Bd.state]; rfl
  have N0 := Fr.nil n0
  refine own_pre (g' := mkF m 0 (lc9 a1) []) (ef_2 m a1) ?_
  obtain ⟨T3, X3, e3, st3⟩ := getF X0 hx hZ hown (host := "") (Or.inl (ww hw 32 rfl)) Via.refl e0 F2 (g := (mkF m 1 (lc9 a1) [(.ref a1)])) rfl rfl (hb hby d4_1)
  refine own_go (U' := T3.setTop (mkF m 4 (lc9 a1) [(.int 2)])) (fun t k => oaloadN X0 hx hby d4_0 rfl rfl (st3 _ k)) ?_
  obtain ⟨T6, X6, e6, st6⟩ := getF X3 hx hZ hown (host := "") (Or.inl (ww hw 20 rfl)) Via.refl e3 F5 (g := (mkF m 12 (lc9 a1) [(.ref a1)])) rfl rfl (hb hby d4_12)
  obtain ⟨T7, X7, e7, st7⟩ := getF X6 hx hZ hown (host := "") (Or.inl (ww hw 32 rfl)) Via.refl e6 F2 (g := (mkF m 16 (lc9 a1) [(.ref a1), (.ref a4)])) rfl rfl (hb hby d4_16)
  obtain ⟨cl12, Ar12, q12, S12, N12, H12, G12⟩ := id F11
  have hin13 : ¬ ((1 : Int32) < 0 ∨ cl12.slots.size ≤ ((1 : Int32)).toNatClampNeg) := inb_of S12 ⟨by decide, by decide⟩
  have hat13 : cl12.slots[((1 : Int32)).toNatClampNeg]? = some (.ref a9) := Has.at H12 hin13 rfl
  refine own_go (U' := T7.setTop (mkF m 22 (lc9 a1) [(.ref a9)])) (fun t k => oifY (pc := 4) X3 hx hby d4_4 11 (by decide) (by decide) (oaloadN X3 hx hby d4_11 rfl rfl (st6 _ (oaloadN X6 hx hby d4_15 rfl rfl (st7 _ (oiconst X7 hx hby d4_19 (oisub X7 hx hby d4_20 (X7.aaload hx (j := (1 : Int32)) (v := (.ref a9)) (by rw [e7]; exact Ar12.1) (State.isArrayOf_alike hZ.alike Ar12.2.1) rfl Ar12.2.2 hin13 hat13 (g := (mkF m 21 (lc9 a1) [(.int 1), (.ref a4)])) rfl rfl (hb hby d4_21) _ k)))))))) ?_
  obtain ⟨fs, hr, hrun, hended, hW, hsame⟩ := X7.leave (v := some (.ref a9)) (fun h => by rw [Bd.returns] at h; cases h)
  refine own_out ⟨_, _, ?_, hrun, hended, _, _, rfl, ?_, ⟨_, rfl⟩, hW, hsame.mono (by decide) (by decide)⟩
  · exact retOut X7 hx Bd.returns rfl (Or.inr (Or.inr (Or.inr (Or.inr ⟨rfl, rfl, rfl⟩)))) (hb hby d4_22) hr
  · show Q4_19 Z a1 a4 a8 a9 kc10 h0 n0 _ T7.heap _
    rw [e7]
    exact ⟨rfl, N0, rfl⟩
def Q8_20 (Z : State)  (h0 : Heap) (n0 : Nat) (v : Option Value) (h : Heap) (L : List Loc) : Prop := v = some (.int 2) ∧ Fr n0 L ∧ h = h0
set_option maxRecDepth 65536 in
set_option maxHeartbeats 40000000 in
theorem rm8_20 (l : Launch) (Z : State) (a0 : Array Value) (hw : ∀ d ∈ tables_1, d.before a0 Z = true) (ws : List Jvm.Cond)  (h0 : Heap) (n0 : Nat) (Z0 : n0 ≤ h0.size) :
    MetFree l zm4 (head1 (Jvm.Cond.code zm4 jdk_29_method_65_code 2 (some .int) :: ws) ({ frames := 0, cells := 0, slots := 0, locals := 0 } : Room)) (fun a U => a = #[(.int 0), (.int 2)] ∧ Z.Warmed39 U.vm ∧ U.heap = h0) (fun _ _ _ _ _ => True) (fun _ U o U' => ∃ v L, o = .returned v ∧ Q8_20 Z  h0 n0 v U'.heap L ∧ FrameEnd U o U' L ({ frames := 0, cells := 0, slots := 0, locals := 0 } : Room).cells ({ frames := 0, cells := 0, slots := 0, locals := 0 } : Room).slots) := by
  refine MetFree.of_bodySF (Jvm.Free.JP.mathPlain rfl (by decide +kernel)) hisR ?_
  intro p e s m args below meth c s₁ Bd hml0 hP hK
  obtain ⟨rfl, hZ, hh⟩ := hP
  have hx := Bd.exec
  have hby := Bd.bytes
  have hml : c.maxLocals = 2 := hml0
  have hown : s.vm.findClass zs8 = some m.cls := findClass_of_methodNamed Bd.named
  have hnm := (name_of_methodNamed Bd.named Bd.method).1
  have X0 : Stand p l e ({ frames := 0, cells := 0, slots := 0, locals := 0 } : Room) s m #[(.int 0), (.int 2)] below meth c s₁ [] 0 0 := Stand.of_body Bd
  have e0 : s₁.heap = h0 := by rw [← hh, Bd.state]; rfl
  have N0 := Fr.nil n0
  refine own_pre (g' := mkF m 0 (lc16 0 2) []) (ef_4 m (0 : Int32) (2 : Int32)) ?_
  refine own_go (U' := s₁.setTop (mkF m 2 (lc16 0 2) [(.int 2), (.int 0)])) (fun t k => oiloadN X0 hx hby d8_0 rfl (oiloadN X0 hx hby d8_1 rfl k)) ?_
  refine own_go (U' := s₁.setTop (mkF m 10 (lc16 0 2) [(.int 2)])) (fun t k => oicY (pc := 2) X0 hx hby d8_2 9 (by decide) (by decide) (oiloadN X0 hx hby d8_9 rfl k)) ?_
  obtain ⟨fs, hr, hrun, hended, hW, hsame⟩ := X0.leave (v := some (.int 2)) (fun h => by rw [Bd.returns] at h; cases h)
  refine own_out ⟨_, _, ?_, hrun, hended, _, _, rfl, ?_, ⟨_, rfl⟩, hW, hsame.mono (by decide) (by decide)⟩
  · exact retI X0 hx Bd.returns (hb hby d8_10) hr
  · show Q8_20 Z  h0 n0 _ s₁.heap _
    rw [e0]
    exact ⟨rfl, N0, rfl⟩
def Q6_21 (Z : State) (a1 : Addr) (q2 : Int64) (a4 : Addr) (a11 : Addr) (q14 : Int64) (q15 : Int64) (kc16 : ClassId) (h0 : Heap) (n0 : Nat) (v : Option Value) (h : Heap) (L : List Loc) : Prop := v = some (.int (-3)) ∧ Fr n0 L ∧ h = h0
set_option maxRecDepth 65536 in
set_option maxHeartbeats 40000000 in
theorem rm6_21 (l : Launch) (Z : State) (a0 : Array Value) (hw : ∀ d ∈ tables_1, d.before a0 Z = true) (ws : List Jvm.Cond) (a1 : Addr) (q2 : Int64) (a4 : Addr) (a11 : Addr) (q14 : Int64) (q15 : Int64) (kc16 : ClassId) (h0 : Heap) (n0 : Nat) (Z0 : n0 ≤ h0.size) (F5 : Fld Z h0 a1 zs2 "side" zs4 (.ref a4)) (F6 : Sta Z h0 zs6 "BUY" zs4 (.ref a4)) (F7 : Exa Z h0 a1 zs2) (F9 : Fld Z h0 a1 zs2 "count" "I" (.int 2)) (F12 : Fld Z h0 a1 zs2 "ranks" "[J" (.ref a11)) (F17 : Arv Z h0 a11 kc16 .long (16 : Int32) [(.long q14), (.long q15)] (.long (0 : Int64))) (hc20 : q15 < q2) (hc23 : ¬ (q2 = (-9223372036854775808 : Int64))) (hc24 : ¬ (q2 = (9223372036854775807 : Int64))) :
    MetFree l zm5 (head1 (Jvm.Cond.code zm5 prog_2_method_8_code 11 (some .int) :: ws) ({ frames := 1, cells := 0, slots := 0, locals := 14 } : Room)) (fun a U => a = #[(.ref a1), (.long q2), .null] ∧ Z.Warmed39 U.vm ∧ U.heap = h0) (fun _ _ _ _ _ => True) (fun _ U o U' => ∃ v L, o = .returned v ∧ Q6_21 Z a1 q2 a4 a11 q14 q15 kc16 h0 n0 v U'.heap L ∧ FrameEnd U o U' L ({ frames := 1, cells := 0, slots := 0, locals := 14 } : Room).cells ({ frames := 1, cells := 0, slots := 0, locals := 14 } : Room).slots) := by
  refine MetFree.of_bodySF (plainFor_of_name pn_com_example_srok_srok_engine_BookSide) hisR ?_
  intro p e s m args below meth c s₁ Bd hml0 hP hK
  obtain ⟨rfl, hZ, hh⟩ := hP
  have hx := Bd.exec
  have hby := Bd.bytes
  have hml : c.maxLocals = 11 := hml0
  have hown : s.vm.findClass zs2 = some m.cls := findClass_of_methodNamed Bd.named
  have hnm := (name_of_methodNamed Bd.named Bd.method).1
  have X0 : Stand p l e ({ frames := 1, cells := 0, slots := 0, locals := 14 } : Room) s m #[(.ref a1), (.long q2), .null] below meth c s₁ [] 0 0 := Stand.of_body Bd
  have e0 : s₁.heap = h0 := by rw [← hh, Bd.state]; rfl
  have N0 := Fr.nil n0
  refine own_pre (g' := mkF m 0 (lc11 a1 q2) []) (ef_5 m a1 q2) ?_
  obtain ⟨_, T3, L3, X3, hQ3, st3⟩ := ocallP X0 hx hZ zm3 hown (ww hw 43 rfl) (ww hw 44 rfl) (own_selP (mvT hZ (ww hw 10 rfl)) (mvP hZ (ww hw 45 rfl)) (mvT hZ (ww hw 44 rfl)) (by decide)) (ww hw 45 rfl) (by decide) (ww hw 46 rfl) (ww hw 11 rfl) e0 F7 (rm7_6 l Z a0 hw [] a1 q2 a4 h0 n0 Z0 F5 F6) (st := [(.long q2), (.ref a1)]) rfl 0 rfl (by decide) (pc := 2) (Ls := (lc11 a1 q2)) hml rfl (lenOf pd_0 rfl) d6_2 hby
  obtain ⟨rfl, N3q, e3⟩ := hQ3
  have N8 := Fr.app N0 N3q
  obtain ⟨T10, X10, e10, st10⟩ := getF X3 hx hZ hown (host := "") (Or.inl (ww hw 32 rfl)) Via.refl e3 F9 (g := (mkF m 8 (lc13 a1 q2 q2) [(.ref a1)])) rfl rfl (hb hby d6_8)
  refine own_go (U' := T10.setTop (mkF m 21 (lc15 a1 q2 q2 2 1) [(.int 1)])) (fun t k => oaloadN X0 hx hby d6_0 rfl rfl (olloadN X0 hx hby d6_1 rfl (st3 _ (olstore X3 hx hby d6_5 (lc13 a1 q2 q2) rfl (oaloadN X3 hx hby d6_7 rfl rfl (st10 _ (oistore X10 hx hby d6_11 (lc14 a1 q2 q2 2) rfl (oiconst X10 hx hby d6_13 (oistore X10 hx hby d6_14 (lc15 a1 q2 q2 2 1) rfl (oiload X10 hx hby d6_16 rfl (oiload X10 hx hby d6_18 rfl (oisub X10 hx hby d6_20 k)))))))))))) ?_
  obtain ⟨T13, X13, e13, st13⟩ := getF X10 hx hZ hown (host := "") (Or.inl (ww hw 23 rfl)) Via.refl e10 F12 (g := (mkF m 25 (lc15 a1 q2 q2 2 1) [(.ref a1)])) rfl rfl (hb hby d6_25)
  obtain ⟨cl18, Ar18, q18, S18, N18, H18, G18⟩ := id F17
  have hin19 : ¬ ((1 : Int32) < 0 ∨ cl18.slots.size ≤ ((1 : Int32)).toNatClampNeg) := inb_of S18 ⟨by decide, by decide⟩
  have hat19 : cl18.slots[((1 : Int32)).toNatClampNeg]? = some (.long q15) := Has.at H18 hin19 rfl
  refine own_go (U' := T13.setTop (mkF m 37 (lc15 a1 q2 q2 2 1) [(.int (lcmpW q15 q2))])) (fun t k => oifN X10 hx hby d6_21 (by decide) (oaloadN X10 hx hby d6_24 rfl rfl (st13 _ (oiload X13 hx hby d6_28 rfl (oiload X13 hx hby d6_30 rfl (oisub X13 hx hby d6_32 (X13.laload hx (j := (1 : Int32)) (v := (.long q15)) (by rw [e13]; exact Ar18.1) (State.isArrayOf_alike hZ.alike Ar18.2.1) Ar18.2.2 hin19 hat19 (g := (mkF m 33 (lc15 a1 q2 q2 2 1) [(.int 1), (.ref a11)])) rfl rfl (hb hby d6_33) _ (olload X13 hx hby d6_34 rfl (olcmp X13 hx hby d6_36 k))))))))) ?_
  obtain ⟨_, T21, L21, X21, hQ21, st21⟩ := ocallS X13 hx hZ zm4 hown (ww hw 48 rfl) (ww hw 49 rfl) (by decide) (ww hw 51 rfl) (ww hw 50 rfl) e13 (rm8_20 l Z a0 hw []  h0 n0 Z0 ) (st := [(.int 2), (.int 0)]) rfl 0 rfl (by decide) (pc := 64) (Ls := (lc15 a1 q2 q2 2 1)) hml rfl (lenOf pd_3 rfl) d6_64 hby
  obtain ⟨rfl, N21q, e21⟩ := hQ21
  have N22 := Fr.app N8 N21q
  refine own_go (U' := T21.setTop (mkF m 79 (lc18 a1 q2 q2 2 1 2 0) [(.int 1), (.int 0)])) (fun t k => oifY (pc := 37) X13 hx hby d6_37 56 (own_ll_lt_t hc20) (by decide) (oiconst X13 hx hby d6_56 (oiload X13 hx hby d6_57 rfl (oiload X13 hx hby d6_59 rfl (oisub X13 hx hby d6_61 (oiconst X13 hx hby d6_62 (oiadd X13 hx hby d6_63 (st21 _ (oistore X21 hx hby d6_67 (lc17 a1 q2 q2 2 1 2) rfl (oiload X21 hx hby d6_69 rfl (oiload X21 hx hby d6_71 rfl (oisub X21 hx hby d6_73 (oistore X21 hx hby d6_74 (lc18 a1 q2 q2 2 1 2 0) rfl (oiload X21 hx hby d6_76 rfl (oiconst X21 hx hby d6_78 k))))))))))))))) ?_
  refine own_go (U' := T21.setTop (mkF m 132 (lc18 a1 q2 q2 2 1 2 0) [(.int 2), (.int 2)])) (fun t k => oicY (pc := 79) X21 hx hby d6_79 128 (by decide) (by decide) (oiload X21 hx hby d6_128 rfl (oiload X21 hx hby d6_130 rfl k))) ?_
  refine own_go (U' := T21.setTop (mkF m 157 (lc18 a1 q2 q2 2 1 2 0) [(.int (lcmpW q2 (-9223372036854775808 : Int64)))])) (fun t k => oicY (pc := 132) X21 hx hby d6_132 151 (by decide) (by decide) (olload X21 hx hby d6_151 rfl (X21.ldc2Long hx hown (mvT hZ (ww hw 52 rfl)) (g := (mkF m 153 (lc18 a1 q2 q2 2 1 2 0) [(.long q2)])) rfl (hb hby d6_153) _ (olcmp X21 hx hby d6_156 k)))) ?_
  refine own_go (U' := T21.setTop (mkF m 166 (lc18 a1 q2 q2 2 1 2 0) [(.int (lcmpW q2 (9223372036854775807 : Int64)))])) (fun t k => oifN X21 hx hby d6_157 (own_ll_eq_f hc23) (olload X21 hx hby d6_160 rfl (X21.ldc2Long hx hown (mvT hZ (ww hw 53 rfl)) (g := (mkF m 162 (lc18 a1 q2 q2 2 1 2 0) [(.long q2)])) rfl (hb hby d6_162) _ (olcmp X21 hx hby d6_165 k)))) ?_
  refine own_go (U' := T21.setTop (mkF m 178 (lc18 a1 q2 q2 2 1 2 1) [(.int 1)])) (fun t k => oifN X21 hx hby d6_166 (own_ll_eq_f hc24) (oiconst X21 hx hby d6_169 (ogoto (pc := 170) X21 hx hby d6_170 174 (by decide) (oistore X21 hx hby d6_174 (lc18 a1 q2 q2 2 1 2 1) rfl (oiload X21 hx hby d6_176 rfl k))))) ?_
  obtain ⟨T25, X25, e25, st25⟩ := getF X21 hx hZ hown (host := "") (Or.inl (ww hw 32 rfl)) Via.refl e21 F9 (g := (mkF m 230 (lc18 a1 q2 q2 2 1 2 1) [(.ref a1), (.int 2)])) rfl rfl (hb hby d6_230)
  refine own_go (U' := T25.setTop (mkF m 233 (lc18 a1 q2 q2 2 1 2 1) [(.int 2), (.int 2)])) (fun t k => oifY (pc := 178) X21 hx hby d6_178 227 (by decide) (by decide) (oiload X21 hx hby d6_227 rfl (oaloadN X21 hx hby d6_229 rfl rfl (st25 _ k)))) ?_
  refine own_go (U' := T25.setTop (mkF m 280 (lc19 a1 q2 q2 2 1 2 1 0) [(.int 0)])) (fun t k => oicY (pc := 233) X25 hx hby d6_233 275 (by decide) (by decide) (oiconst X25 hx hby d6_275 (oistore X25 hx hby d6_276 (lc19 a1 q2 q2 2 1 2 1 0) rfl (oiload X25 hx hby d6_278 rfl k)))) ?_
  refine own_go (U' := T25.setTop (mkF m 292 (lc19 a1 q2 q2 2 1 2 1 0) [(.int ((-1 : Int32) - (2 : Int32)))])) (fun t k => oifY (pc := 280) X25 hx hby d6_280 288 (by decide) (by decide) (oiconst X25 hx hby d6_288 (oiload X25 hx hby d6_289 rfl (oisub X25 hx hby d6_291 k)))) ?_
  rw [show ((-1 : Int32) - (2 : Int32)) = (-3 : Int32) from by decide]
  obtain ⟨fs, hr, hrun, hended, hW, hsame⟩ := X25.leave (v := some (.int (-3))) (fun h => by rw [Bd.returns] at h; cases h)
  refine own_out ⟨_, _, ?_, hrun, hended, _, _, rfl, ?_, ⟨_, rfl⟩, hW, hsame.mono (by decide) (by decide)⟩
  · exact retI X25 hx Bd.returns (hb hby d6_292) hr
  · show Q6_21 Z a1 q2 a4 a11 q14 q15 kc16 h0 n0 _ T25.heap _
    rw [e25]
    exact ⟨rfl, N22, rfl⟩
def Qmg6_22 (Z : State) (a1 : Addr) (q2 : Int64) (a3 : Addr) (a8 : Addr) (q10 : Int64) (q11 : Int64) (kc12 : ClassId) (h0 : Heap) (n0 : Nat) (v : Option Value) (h : Heap) (L : List Loc) : Prop := v = some (.int (-3)) ∧ Fr n0 L ∧ h = h0
theorem mg6_22 (l : Launch) (Z : State) (a0 : Array Value) (hw : ∀ d ∈ tables_1, d.before a0 Z = true) (ws : List Jvm.Cond) (a1 : Addr) (q2 : Int64) (a3 : Addr) (a8 : Addr) (q10 : Int64) (q11 : Int64) (kc12 : ClassId) (h0 : Heap) (n0 : Nat) (Z0 : n0 ≤ h0.size) (F4 : Fld Z h0 a1 zs2 "side" zs4 (.ref a3)) (F5 : Sta Z h0 zs6 "BUY" zs4 (.ref a3)) (F6 : Exa Z h0 a1 zs2) (F7 : Fld Z h0 a1 zs2 "count" "I" (.int 2)) (F9 : Fld Z h0 a1 zs2 "ranks" "[J" (.ref a8)) (F13 : Arv Z h0 a8 kc12 .long (16 : Int32) [(.long q10), (.long q11)] (.long (0 : Int64))) (hc14 : q11 < q2) (hc15 : ¬ (q2 = (-9223372036854775808 : Int64))) (hc16 : ¬ (q2 = (9223372036854775807 : Int64))) :
    MetFree l zm5 (head1 (Jvm.Cond.code zm5 prog_2_method_8_code 11 (some .int) :: ws) ({ frames := 1, cells := 0, slots := 0, locals := 14 } : Room)) (fun a U => a = #[(.ref a1), (.long q2), .null] ∧ Z.Warmed39 U.vm ∧ U.heap = h0) (fun _ _ _ _ _ => True) (fun _ U o U' => ∃ v L, o = .returned v ∧ Qmg6_22 Z a1 q2 a3 a8 q10 q11 kc12 h0 n0 v U'.heap L ∧ FrameEnd U o U' L ({ frames := 1, cells := 0, slots := 0, locals := 14 } : Room).cells ({ frames := 1, cells := 0, slots := 0, locals := 14 } : Room).slots) := by
  exact rm6_21 l Z a0 hw ws a1 q2 a3 a8 q10 q11 kc12 h0 n0 Z0 F4 F5 F6 F7 F9 F13 hc14 hc15 hc16
def Q5_23 (Z : State) (a1 : Addr) (q2 : Int64) (a4 : Addr) (a9 : Addr) (q11 : Int64) (q12 : Int64) (kc13 : ClassId) (a20 : Addr) (a23 : Addr) (a24 : Addr) (kc25 : ClassId) (h0 : Heap) (n0 : Nat) (v : Option Value) (h : Heap) (L : List Loc) : Prop := ∃ b48 : Addr, v = some (.ref b48) ∧ Fr n0 L ∧ Keep h0 h [a20, a9, a1] ∧ h0.size ≤ b48 ∧ Arv Z h a20 kc25 (.object zs1) (16 : Int32) [(.ref a23), (.ref a24), (.ref b48)] .null ∧ Arv Z h a9 kc13 .long (16 : Int32) [(.long q11), (.long q12), (.long q2)] (.long (0 : Int64)) ∧ Fld Z h a1 zs2 "side" zs4 (.ref a4) ∧ Fld Z h a1 zs2 "count" "I" (.int 3) ∧ Fld Z h a1 zs2 "ranks" "[J" (.ref a9) ∧ Fld Z h a1 zs2 "levels" zs3 (.ref a20) ∧ Fld Z h a1 zs2 "emptyLevels" "I" (.int 0) ∧ Exa Z h b48 zs1 ∧ Fld Z h b48 zs1 "price" zs10 .null ∧ Fld Z h b48 zs1 "priceSteps" "J" (.long q2) ∧ Fld Z h b48 zs1 "first" zs11 .null
set_option maxRecDepth 65536 in
set_option maxHeartbeats 40000000 in
theorem rm5_23 (l : Launch) (Z : State) (a0 : Array Value) (hw : ∀ d ∈ tables_1, d.before a0 Z = true) (ws : List Jvm.Cond) (a1 : Addr) (q2 : Int64) (a4 : Addr) (a9 : Addr) (q11 : Int64) (q12 : Int64) (kc13 : ClassId) (a20 : Addr) (a23 : Addr) (a24 : Addr) (kc25 : ClassId) (h0 : Heap) (n0 : Nat) (Z0 : n0 ≤ h0.size) (F5 : Fld Z h0 a1 zs2 "side" zs4 (.ref a4)) (F6 : Sta Z h0 zs6 "BUY" zs4 (.ref a4)) (F7 : Exa Z h0 a1 zs2) (F8 : Fld Z h0 a1 zs2 "count" "I" (.int 2)) (F10 : Fld Z h0 a1 zs2 "ranks" "[J" (.ref a9)) (F14 : Arv Z h0 a9 kc13 .long (16 : Int32) [(.long q11), (.long q12)] (.long (0 : Int64))) (hc15 : q12 < q2) (hc16 : ¬ (q2 = (-9223372036854775808 : Int64))) (hc17 : ¬ (q2 = (9223372036854775807 : Int64))) (F21 : Fld Z h0 a1 zs2 "levels" zs3 (.ref a20)) (F26 : Arv Z h0 a20 kc25 (.object zs1) (16 : Int32) [(.ref a23), (.ref a24)] .null) (g33 : n0 ≤ a20) (O34 : Ovr Z kc25 zs1) (ne36 : a1 ≠ a20) (ne43 : a9 ≠ a20) (g46 : n0 ≤ a9) (ne58 : a1 ≠ a9) (F84 : Fld Z h0 a1 zs2 "emptyLevels" "I" (.int 0)) (g87 : n0 ≤ a1) :
    MetFree l zm7 (head1 (Jvm.Cond.code zm7 prog_2_method_5_code 7 (some (.object zs1)) :: ws) ({ frames := 2, cells := 1, slots := 4, locals := 36 } : Room)) (fun a U => a = #[(.ref a1), (.long q2), .null] ∧ Z.Warmed39 U.vm ∧ U.heap = h0) (fun _ _ _ _ _ => True) (fun _ U o U' => ∃ v L, o = .returned v ∧ Q5_23 Z a1 q2 a4 a9 q11 q12 kc13 a20 a23 a24 kc25 h0 n0 v U'.heap L ∧ FrameEnd U o U' L ({ frames := 2, cells := 1, slots := 4, locals := 36 } : Room).cells ({ frames := 2, cells := 1, slots := 4, locals := 36 } : Room).slots) := by
  refine MetFree.of_bodySF (plainFor_of_name pn_com_example_srok_srok_engine_BookSide) hisR ?_
  intro p e s m args below meth c s₁ Bd hml0 hP hK
  obtain ⟨rfl, hZ, hh⟩ := hP
  have hx := Bd.exec
  have hby := Bd.bytes
  have hml : c.maxLocals = 7 := hml0
  have hown : s.vm.findClass zs2 = some m.cls := findClass_of_methodNamed Bd.named
  have hnm := (name_of_methodNamed Bd.named Bd.method).1
  have X0 : Stand p l e ({ frames := 2, cells := 1, slots := 4, locals := 36 } : Room) s m #[(.ref a1), (.long q2), .null] below meth c s₁ [] 0 0 := Stand.of_body Bd
  have e0 : s₁.heap = h0 := by rw [← hh, Bd.state]; rfl
  have N0 := Fr.nil n0
  refine own_pre (g' := mkF m 0 (lc10 a1 q2) []) (ef_7 m a1 q2) ?_
  obtain ⟨_, T3, L3, X3, hQ3, st3⟩ := ocallP X0 hx hZ zm5 hown (ww hw 39 rfl) (ww hw 40 rfl) (own_selP (mvT hZ (ww hw 10 rfl)) (mvP hZ (ww hw 41 rfl)) (mvT hZ (ww hw 40 rfl)) (by decide)) (ww hw 41 rfl) (by decide) (ww hw 42 rfl) (ww hw 11 rfl) e0 F7 (mg6_22 l Z a0 hw [] a1 q2 a4 a9 q11 q12 kc13 h0 n0 Z0 F5 F6 F7 F8 F10 F14 hc15 hc16 hc17) (st := [.null, (.long q2), (.ref a1)]) rfl 0 rfl (by decide) (pc := 3) (Ls := (lc10 a1 q2)) hml rfl (lenOf pd_4 rfl) d5_3 hby
  obtain ⟨rfl, N3q, e3⟩ := hQ3
  have N18 := Fr.app N0 N3q
  refine own_go (U' := T3.setTop (mkF m 10 (lc20 a1 q2 (-3)) [(.int (-3))])) (fun t k => oaloadN X0 hx hby d5_0 rfl rfl (olloadN X0 hx hby d5_1 rfl (oaloadN X0 hx hby d5_2 rfl rfl (st3 _ (oistore X3 hx hby d5_6 (lc20 a1 q2 (-3)) rfl (oiload X3 hx hby d5_8 rfl k)))))) ?_
  refine own_go (U' := T3.setTop (mkF m 47 (lc20 a1 q2 (-3)) [(.int (-(-3 : Int32)))])) (fun t k => oifY (pc := 10) X3 hx hby d5_10 44 (by decide) (by decide) (oiload X3 hx hby d5_44 rfl (oineg X3 hx hby d5_46 k))) ?_
  rw [show (-(-3 : Int32)) = (3 : Int32) from by decide]
  obtain ⟨T19, X19, e19, st19⟩ := getF X3 hx hZ hown (host := "") (Or.inl (ww hw 32 rfl)) Via.refl e3 F8 (g := (mkF m 52 (lc21 a1 q2 (-3) 2) [(.ref a1)])) rfl rfl (hb hby d5_52)
  obtain ⟨T22, X22, e22, st22⟩ := getF X19 hx hZ hown (host := "") (Or.inl (ww hw 20 rfl)) Via.refl e19 F21 (g := (mkF m 56 (lc21 a1 q2 (-3) 2) [(.ref a1), (.int 2)])) rfl rfl (hb hby d5_56)
  refine own_go (U' := T22.setTop (mkF m 59 (lc21 a1 q2 (-3) 2) [(.ref a20), (.int 2)])) (fun t k => oiconst X3 hx hby d5_47 (oisub X3 hx hby d5_48 (oistore X3 hx hby d5_49 (lc21 a1 q2 (-3) 2) rfl (oaloadN X3 hx hby d5_51 rfl rfl (st19 _ (oaloadN X19 hx hby d5_55 rfl rfl (st22 _ k))))))) ?_
  obtain ⟨cl27, Ar27, q27, S27, N27, H27, G27⟩ := id F26
  refine own_go (fun t k => X22.arraylength hx (by rw [e22]; exact Ar27.1) (State.isArrayOf_alike hZ.alike Ar27.2.1) (g := (mkF m 59 (lc21 a1 q2 (-3) 2) [(.ref a20), (.int 2)])) rfl rfl (hb hby d5_59) _ k) ?_
  rw [len_of S27 N27]
  obtain ⟨T28, X28, e28, st28⟩ := getF X22 hx hZ hown (host := "") (Or.inl (ww hw 20 rfl)) Via.refl e22 F21 (g := (mkF m 101 (lc21 a1 q2 (-3) 2) [(.ref a1)])) rfl rfl (hb hby d5_101)
  obtain ⟨T29, X29, e29, st29⟩ := getF X28 hx hZ hown (host := "") (Or.inl (ww hw 20 rfl)) Via.refl e28 F21 (g := (mkF m 107 (lc21 a1 q2 (-3) 2) [(.ref a1), (.int 2), (.ref a20)])) rfl rfl (hb hby d5_107)
  obtain ⟨T30, X30, e30, st30⟩ := getF X29 hx hZ hown (host := "") (Or.inl (ww hw 32 rfl)) Via.refl e29 F8 (g := (mkF m 115 (lc21 a1 q2 (-3) 2) [(.ref a1), (.int 3), (.ref a20), (.int 2), (.ref a20)])) rfl rfl (hb hby d5_115)
  have f32 : Arv Z h0 a20 kc25 (.object zs1) (16 : Int32) [(.ref a23), (.ref a24), .null] .null := F26.pad (pad_rep [(.ref a23), (.ref a24)] .null 1)
  obtain ⟨cl31, Ar31, q31, -⟩ := id f32
  obtain ⟨T31, h31, L31, X31, e31, N31, K31, V31, st31⟩ := cpA X30 hx hZ hown (ww hw 54 rfl) (ww hw 57 rfl) (ww hw 55 rfl) (ww hw 56 rfl) e30 (us := []) f32 f32 (Or.inr ⟨rfl, rfl, trivial⟩) (by decide) (by decide) (by decide) (by decide) (by decide) rfl (Nat.le_of_ble_eq_true rfl) N18 g33 (g := (mkF m 121 (lc21 a1 q2 (-3) 2) [(.int 0), (.int 3), (.ref a20), (.int 2), (.ref a20)])) rfl (by rw [hml]; rfl) rfl (hb hby d5_121) (by decide) (W := 0) (by show 2 * 0 + _ ≤ _; exact Nat.le_of_eq rfl) (by decide)
  have f35 : Arv Z h31 a20 kc25 (.object zs1) (16 : Int32) [(.ref a23), (.ref a24), .null] .null := V31
  have f37 : Fld Z h31 a1 zs2 "ranks" "[J" (.ref a9) := (F10.keep K31 (ninS ne36 nin0))
  obtain ⟨T38, X38, e38, st38⟩ := getF X31 hx hZ hown (host := "") (Or.inl (ww hw 23 rfl)) Via.refl e31 f37 (g := (mkF m 125 (lc21 a1 q2 (-3) 2) [(.ref a1)])) rfl rfl (hb hby d5_125)
  obtain ⟨T39, X39, e39, st39⟩ := getF X38 hx hZ hown (host := "") (Or.inl (ww hw 23 rfl)) Via.refl e38 f37 (g := (mkF m 131 (lc21 a1 q2 (-3) 2) [(.ref a1), (.int 2), (.ref a9)])) rfl rfl (hb hby d5_131)
  have f40 : Fld Z h31 a1 zs2 "count" "I" (.int 2) := (F8.keep K31 (ninS ne36 nin0))
  obtain ⟨T41, X41, e41, st41⟩ := getF X39 hx hZ hown (host := "") (Or.inl (ww hw 32 rfl)) Via.refl e39 f40 (g := (mkF m 139 (lc21 a1 q2 (-3) 2) [(.ref a1), (.int 3), (.ref a9), (.int 2), (.ref a9)])) rfl rfl (hb hby d5_139)
  have f44 : Arv Z h31 a9 kc13 .long (16 : Int32) [(.long q11), (.long q12)] (.long (0 : Int64)) := (F14.keep K31 (ninS ne43 nin0))
  have f45 : Arv Z h31 a9 kc13 .long (16 : Int32) [(.long q11), (.long q12), (.long 0)] (.long (0 : Int64)) := f44.pad (pad_rep [(.long q11), (.long q12)] (.long (0 : Int64)) 1)
  obtain ⟨T42, h42, L42, X42, e42, N42, K42, V42, st42⟩ := cpA X41 hx hZ hown (ww hw 54 rfl) (ww hw 57 rfl) (ww hw 55 rfl) (ww hw 56 rfl) e41 (us := []) f45 f45 (Or.inl ⟨rfl, rfl⟩) (by decide) (by decide) (by decide) (by decide) (by decide) rfl (Nat.le_of_ble_eq_true rfl) N31 g46 (g := (mkF m 145 (lc21 a1 q2 (-3) 2) [(.int 0), (.int 3), (.ref a9), (.int 2), (.ref a9)])) rfl (by rw [hml]; rfl) rfl (hb hby d5_145) (by decide) (W := 0) (by show 2 * 0 + _ ≤ _; exact Nat.le_of_eq rfl) (by decide)
  have f47 : Arv Z h42 a9 kc13 .long (16 : Int32) [(.long q11), (.long q12), (.long 0)] (.long (0 : Int64)) := V42
  obtain ⟨T48, h48, X48, e48, E48, A48, D48, -, st48⟩ := newO X42 hx hZ hown (ww hw 18 rfl) (ww hw 58 rfl) (ww hw 59 rfl) e42 (g := (mkF m 148 (lc21 a1 q2 (-3) 2) [])) rfl (hb hby d5_148) (by decide) (by decide)
  obtain ⟨b48, g48⟩ : ∃ z, z = h42.size := ⟨_, rfl⟩
  rw [← g48] at A48 D48 st48
  have f49 : Fld Z h48 b48 zs1 "price" zs10 .null := D48 (Or.inr (ww hw 65 rfl)) (ty := (.object zs13)) (by decide)
  have f50 : Fld Z h48 b48 zs1 "priceSteps" "J" (.long 0) := D48 (Or.inr (ww hw 67 rfl)) (ty := .long) (by decide)
  have f51 : Fld Z h48 b48 zs1 "first" zs11 .null := D48 (Or.inl (ww hw 78 rfl)) (ty := (.object zs14)) (by decide)
  have Z_1 : n0 ≤ h31.size := Nat.le_trans Z0 K31.1
  have Z_2 : n0 ≤ h42.size := Nat.le_trans Z_1 K42.1
  have g53 : n0 ≤ b48 := Nat.le_trans Z_2 (Nat.le_of_eq g48.symm)
  have Z_3 : n0 ≤ h48.size := Nat.le_trans Z_2 E48.1
  obtain ⟨_, T52, L52, X52, hQ52, st52⟩ := ocallI X48 hx hZ zm6 rfl hown (ww hw 60 rfl) (ww hw 61 rfl) (by decide) (ww hw 62 rfl) (ww hw 59 rfl) e48 (rm9_10 l Z a0 hw [] b48 q2 h48 n0 Z_3 f49 f50 f51 A48 g53) (st := [(.long q2), .null, (.ref b48), (.ref b48)]) rfl 1 rfl (by decide) (pc := 154) (Ls := (lc21 a1 q2 (-3) 2)) hml rfl (lenOf pd_5 rfl) d5_154 hby
  obtain ⟨rfl, N52q, K52, f54, f55, f56⟩ := hQ52
  have N57 := Fr.app N42 N52q
  have ne59 : a1 ≠ b48 := Nat.ne_of_lt (Nat.lt_of_lt_of_le (Nat.lt_of_lt_of_le (Nat.lt_of_lt_of_le (F5.lt) K31.1) K42.1) (Nat.le_of_eq g48.symm))
  have f60 : Fld Z T52.heap a1 zs2 "levels" zs3 (.ref a20) := ((Fld.ext E48 ((F21.keep K31 (ninS ne36 nin0)).keep K42 (ninS ne58 nin0))).keep K52 (ninS ne59 nin0))
  obtain ⟨T61, X61, e61, st61⟩ := getF X52 hx hZ hown (host := "") (Or.inl (ww hw 20 rfl)) Via.refl rfl f60 (g := (mkF m 160 (lc23 a1 q2 (-3) 2 b48) [(.ref a1)])) rfl rfl (hb hby d5_160)
  have ne62 : a20 ≠ b48 := Nat.ne_of_lt (Nat.lt_of_lt_of_le (Nat.lt_of_lt_of_le (f35.lt) K42.1) (Nat.le_of_eq g48.symm))
  have f63 : Arv Z T52.heap a20 kc25 (.object zs1) (16 : Int32) [(.ref a23), (.ref a24), .null] .null := (((f35.keep K42 (ninS (Ne.symm ne43) nin0)).ext E48).keep K52 (ninS ne62 nin0))
  have f64 : Exa Z T52.heap b48 zs1 := (A48.keep K52)
  obtain ⟨cl65, Ar65, q65, S65, N65, H65, G65⟩ := id f63
  have hin66 : ¬ ((2 : Int32) < 0 ∨ cl65.slots.size ≤ ((2 : Int32)).toNatClampNeg) := inb_of S65 ⟨by decide, by decide⟩
  obtain ⟨T66, h66, X66, e66, W66, st66⟩ := stR X61 hx hZ e61 Ar65 (j := (2 : Int32)) hin66 rfl (Sto.ofV Ar65 q65 O34 (Ins.self f64)) (g := (mkF m 167 (lc23 a1 q2 (-3) 2 b48) [(.ref b48), (.int 2), (.ref a20)])) rfl rfl (hb hby d5_167)
  have N67 := Fr.snoc X66 N57 g33
  have f68 : Arv Z h66 a20 kc25 (.object zs1) (16 : Int32) [(.ref a23), (.ref a24), (.ref b48)] .null := Arv.set Ar65 q65 S65 N65 H65 G65 (by rfl) W66 2 rfl (Nat.le_of_ble_eq_true rfl)
  have f69 : Fld Z h66 a1 zs2 "ranks" "[J" (.ref a9) := (Fld.other W66 ((Fld.ext E48 (f37.keep K42 (ninS ne58 nin0))).keep K52 (ninS ne59 nin0)) (Or.inl ne36))
  obtain ⟨T70, X70, e70, st70⟩ := getF X66 hx hZ hown (host := "") (Or.inl (ww hw 23 rfl)) Via.refl e66 f69 (g := (mkF m 169 (lc23 a1 q2 (-3) 2 b48) [(.ref a1)])) rfl rfl (hb hby d5_169)
  have f72 : Fld Z h66 a1 zs2 "side" zs4 (.ref a4) := (Fld.other W66 ((Fld.ext E48 ((F5.keep K31 (ninS ne36 nin0)).keep K42 (ninS ne58 nin0))).keep K52 (ninS ne59 nin0)) (Or.inl ne36))
  have f73 : Sta Z h66 zs6 "BUY" zs4 (.ref a4) := (Sta.wr W66 (own_staK (Sta.ext E48 (own_staK (own_staK F6 K31 (allS (own_nsV f32) all0)) K42 (allS (own_nsV f45) all0))) K52 (allS (own_nsF f49) all0)))
  have Z_4 : n0 ≤ T52.heap.size := Nat.le_trans Z_3 K52.1
  have Z_5 : n0 ≤ h66.size := Nat.le_trans Z_4 (Keep.of_wr W66).1
  have f74 : Exa Z h66 a1 zs2 := (Exa.wr W66 ((Exa.ext E48 ((F7.keep K31).keep K42)).keep K52))
  obtain ⟨_, T71, L71, X71, hQ71, st71⟩ := ocallP X70 hx hZ zm3 hown (ww hw 43 rfl) (ww hw 44 rfl) (own_selP (mvT hZ (ww hw 10 rfl)) (mvP hZ (ww hw 45 rfl)) (mvT hZ (ww hw 44 rfl)) (by decide)) (ww hw 45 rfl) (by decide) (ww hw 46 rfl) (ww hw 11 rfl) e70 f74 (rm7_6 l Z a0 hw [] a1 q2 a4 h66 n0 Z_5 f72 f73) (st := [(.long q2), (.ref a1), (.int 2), (.ref a9)]) rfl 2 rfl (by decide) (pc := 176) (Ls := (lc23 a1 q2 (-3) 2 b48)) hml rfl (lenOf pd_0 rfl) d5_176 hby
  obtain ⟨rfl, N71q, e71⟩ := hQ71
  have N75 := Fr.app N67 N71q
  have ne76 : a9 ≠ b48 := Nat.ne_of_lt (Nat.lt_of_lt_of_le (f47.lt) (Nat.le_of_eq g48.symm))
  have f77 : Arv Z h66 a9 kc13 .long (16 : Int32) [(.long q11), (.long q12), (.long 0)] (.long (0 : Int64)) := (((f47.ext E48).keep K52 (ninS ne76 nin0)).other W66 ne43)
  obtain ⟨cl78, Ar78, q78, S78, N78, H78, G78⟩ := id f77
  have hin79 : ¬ ((2 : Int32) < 0 ∨ cl78.slots.size ≤ ((2 : Int32)).toNatClampNeg) := inb_of S78 ⟨by decide, by decide⟩
  obtain ⟨T79, h79, X79, e79, W79, st79⟩ := stJ X71 hx hZ e71 Ar78 (j := (2 : Int32)) hin79 (g := (mkF m 179 (lc23 a1 q2 (-3) 2 b48) [(.long q2), (.int 2), (.ref a9)])) rfl rfl (hb hby d5_179)
  have N80 := Fr.snoc X79 N75 g46
  have f81 : Arv Z h79 a9 kc13 .long (16 : Int32) [(.long q11), (.long q12), (.long q2)] (.long (0 : Int64)) := Arv.set Ar78 q78 S78 N78 H78 G78 (by rfl) W79 2 rfl (Nat.le_of_ble_eq_true rfl)
  have f82 : Fld Z h79 a1 zs2 "count" "I" (.int 2) := (Fld.other W79 (Fld.other W66 ((Fld.ext E48 (f40.keep K42 (ninS ne58 nin0))).keep K52 (ninS ne59 nin0)) (Or.inl ne36)) (Or.inl ne58))
  obtain ⟨T83, X83, e83, st83⟩ := getF X79 hx hZ hown (host := "") (Or.inl (ww hw 32 rfl)) Via.refl e79 f82 (g := (mkF m 182 (lc23 a1 q2 (-3) 2 b48) [(.ref a1), (.ref a1)])) rfl rfl (hb hby d5_182)
  have f85 : Exa Z h79 a1 zs2 := (Exa.wr W79 f74)
  obtain ⟨T86, h86, X86, e86, W86, st86⟩ := putF X83 hx hZ hown (host := "") (Or.inl (ww hw 32 rfl)) Via.refl e83 f82 f85 (Or.inl (ww hw 33 rfl)) (ww hw 10 rfl) (ty := .int) (by decide) rfl rfl (g := (mkF m 187 (lc23 a1 q2 (-3) 2 b48) [(.int 3), (.ref a1)])) rfl rfl (hb hby d5_187)
  have N88 := Fr.snoc X86 N80 g87
  have f89 : Fld Z h86 a1 zs2 "count" "I" (.int 3) := Fld.same W86 f82
  refine own_go (U' := T86.setTop (mkF m 192 (lc23 a1 q2 (-3) 2 b48) [(.ref b48)])) (fun t k => oicY (pc := 60) X22 hx hby d5_60 100 (by decide) (by decide) (oaloadN X22 hx hby d5_100 rfl rfl (st28 _ (oiload X28 hx hby d5_104 rfl (oaloadN X28 hx hby d5_106 rfl rfl (st29 _ (oiload X29 hx hby d5_110 rfl (oiconst X29 hx hby d5_112 (oiadd X29 hx hby d5_113 (oaloadN X29 hx hby d5_114 rfl rfl (st30 _ (oiload X30 hx hby d5_118 rfl (oisub X30 hx hby d5_120 (st31 _ (oaloadN X31 hx hby d5_124 rfl rfl (st38 _ (oiload X38 hx hby d5_128 rfl (oaloadN X38 hx hby d5_130 rfl rfl (st39 _ (oiload X39 hx hby d5_134 rfl (oiconst X39 hx hby d5_136 (oiadd X39 hx hby d5_137 (oaloadN X39 hx hby d5_138 rfl rfl (st41 _ (oiload X41 hx hby d5_142 rfl (oisub X41 hx hby d5_144 (st42 _ (st48 _ (odup X48 hx hby d5_151 rfl (oaloadN X48 hx hby d5_152 rfl rfl (olloadN X48 hx hby d5_153 rfl (st52 _ (oastore X52 hx hby d5_157 (lc23 a1 q2 (-3) 2 b48) rfl rfl (oaloadN X52 hx hby d5_159 rfl rfl (st61 _ (oiload X61 hx hby d5_163 rfl (oaload X61 hx hby d5_165 rfl rfl (st66 _ (oaloadN X66 hx hby d5_168 rfl rfl (st70 _ (oiload X70 hx hby d5_172 rfl (oaloadN X70 hx hby d5_174 rfl rfl (olloadN X70 hx hby d5_175 rfl (st71 _ (st79 _ (oaloadN X79 hx hby d5_180 rfl rfl (odup X79 hx hby d5_181 rfl (st83 _ (oiconst X83 hx hby d5_185 (oiadd X83 hx hby d5_186 (st86 _ (oaload X86 hx hby d5_190 rfl rfl k)))))))))))))))))))))))))))))))))))))))))))))))))))) ?_
  have f90 : Arv Z h86 a20 kc25 (.object zs1) (16 : Int32) [(.ref a23), (.ref a24), (.ref b48)] .null := ((f68.other W79 (Ne.symm ne43)).other W86 (Ne.symm ne36))
  have f91 : Arv Z h86 a9 kc13 .long (16 : Int32) [(.long q11), (.long q12), (.long q2)] (.long (0 : Int64)) := (f81.other W86 (Ne.symm ne58))
  have f92 : Fld Z h86 a1 zs2 "side" zs4 (.ref a4) := (Fld.other W86 (Fld.other W79 f72 (Or.inl ne58)) (Or.inr (slot_ne (Or.inr (ww hw 26 rfl)) (Or.inl (ww hw 33 rfl)) (by decide) (t := (.object zs6)) (t' := .int) (by decide) (by decide))))
  have f93 : Fld Z h86 a1 zs2 "ranks" "[J" (.ref a9) := (Fld.other W86 (Fld.other W79 f69 (Or.inl ne58)) (Or.inr (slot_ne (Or.inl (ww hw 24 rfl)) (Or.inl (ww hw 33 rfl)) (by decide) (t := (.array .long)) (t' := .int) (by decide) (by decide))))
  have f94 : Fld Z h86 a1 zs2 "levels" zs3 (.ref a20) := (Fld.other W86 (Fld.other W79 (Fld.other W66 f60 (Or.inl ne36)) (Or.inl ne58)) (Or.inr (slot_ne (Or.inl (ww hw 21 rfl)) (Or.inl (ww hw 33 rfl)) (by decide) (t := (.array (.object zs1))) (t' := .int) (by decide) (by decide))))
  have f95 : Fld Z h86 a1 zs2 "emptyLevels" "I" (.int 0) := (Fld.other W86 (Fld.other W79 (Fld.other W66 ((Fld.ext E48 ((F84.keep K31 (ninS ne36 nin0)).keep K42 (ninS ne58 nin0))).keep K52 (ninS ne59 nin0)) (Or.inl ne36)) (Or.inl ne58)) (Or.inr (slot_ne (Or.inl (ww hw 80 rfl)) (Or.inl (ww hw 33 rfl)) (by decide) (t := .int) (t' := .int) (by decide) (by decide))))
  have f96 : Exa Z h86 b48 zs1 := (Exa.wr W86 (Exa.wr W79 (Exa.wr W66 f64)))
  have f97 : Fld Z h86 b48 zs1 "price" zs10 .null := (Fld.other W86 (Fld.other W79 (Fld.other W66 f54 (Or.inl (Ne.symm ne62))) (Or.inl (Ne.symm ne76))) (Or.inl (Ne.symm ne59)))
  have f98 : Fld Z h86 b48 zs1 "priceSteps" "J" (.long q2) := (Fld.other W86 (Fld.other W79 (Fld.other W66 f55 (Or.inl (Ne.symm ne62))) (Or.inl (Ne.symm ne76))) (Or.inl (Ne.symm ne59)))
  have f99 : Fld Z h86 b48 zs1 "first" zs11 .null := (Fld.other W86 (Fld.other W79 (Fld.other W66 f56 (Or.inl (Ne.symm ne62))) (Or.inl (Ne.symm ne76))) (Or.inl (Ne.symm ne59)))
  obtain ⟨fs, hr, hrun, hended, hW, hsame⟩ := X86.leave (v := some (.ref b48)) (fun h => by rw [Bd.returns] at h; cases h)
  refine own_out ⟨_, _, ?_, hrun, hended, _, _, rfl, ?_, ⟨_, rfl⟩, hW, hsame.mono (by decide) (by decide)⟩
  · exact retOut X86 hx Bd.returns rfl (Or.inr (Or.inr (Or.inr (Or.inr ⟨rfl, rfl, rfl⟩)))) (hb hby d5_192) hr
  · show Q5_23 Z a1 q2 a4 a9 q11 q12 kc13 a20 a23 a24 kc25 h0 n0 _ T86.heap _
    rw [e86]
    exact ⟨b48, rfl, N88, ((((Keep.trans ((Keep.trans (Keep.trans (Keep.refl h0 [a20, a9, a1]) K31 (allS (Or.inl (List.mem_of_getElem? (i := 0) rfl)) all0)) K42 (allS (Or.inl (List.mem_of_getElem? (i := 1) rfl)) all0)).ext E48) K52 (allS (Or.inr (Nat.le_trans K31.1 (Nat.le_trans K42.1 (Nat.le_of_eq g48.symm)))) all0)).wr W66 (Or.inl (List.mem_of_getElem? (i := 0) rfl))).wr W79 (Or.inl (List.mem_of_getElem? (i := 1) rfl))).wr W86 (Or.inl (List.mem_of_getElem? (i := 2) rfl))), (Nat.le_trans K31.1 (Nat.le_trans K42.1 (Nat.le_of_eq g48.symm))), f90, f91, f92, f89, f93, f94, f95, f96, f97, f98, f99⟩
def Q4_24 (Z : State) (a1 : Addr) (a4 : Addr) (a8 : Addr) (a9 : Addr) (a10 : Addr) (kc11 : ClassId) (h0 : Heap) (n0 : Nat) (v : Option Value) (h : Heap) (L : List Loc) : Prop := v = some (.ref a10) ∧ Fr n0 L ∧ h = h0
set_option maxRecDepth 65536 in
set_option maxHeartbeats 40000000 in
theorem rm4_24 (l : Launch) (Z : State) (a0 : Array Value) (hw : ∀ d ∈ tables_1, d.before a0 Z = true) (ws : List Jvm.Cond) (a1 : Addr) (a4 : Addr) (a8 : Addr) (a9 : Addr) (a10 : Addr) (kc11 : ClassId) (h0 : Heap) (n0 : Nat) (Z0 : n0 ≤ h0.size) (F2 : Fld Z h0 a1 zs2 "count" "I" (.int 3)) (F5 : Fld Z h0 a1 zs2 "levels" zs3 (.ref a4)) (F12 : Arv Z h0 a4 kc11 (.object zs1) (16 : Int32) [(.ref a8), (.ref a9), (.ref a10)] .null) :
    MetFree l zm2 (head1 (Jvm.Cond.code zm2 prog_2_method_3_code 1 (some (.object zs1)) :: ws) ({ frames := 0, cells := 0, slots := 0, locals := 0 } : Room)) (fun a U => a = #[(.ref a1)] ∧ Z.Warmed39 U.vm ∧ U.heap = h0) (fun _ _ _ _ _ => True) (fun _ U o U' => ∃ v L, o = .returned v ∧ Q4_24 Z a1 a4 a8 a9 a10 kc11 h0 n0 v U'.heap L ∧ FrameEnd U o U' L ({ frames := 0, cells := 0, slots := 0, locals := 0 } : Room).cells ({ frames := 0, cells := 0, slots := 0, locals := 0 } : Room).slots) := by
  refine MetFree.of_bodySF (plainFor_of_name pn_com_example_srok_srok_engine_BookSide) hisR ?_
  intro p e s m args below meth c s₁ Bd hml0 hP hK
  obtain ⟨rfl, hZ, hh⟩ := hP
  have hx := Bd.exec
  have hby := Bd.bytes
  have hml : c.maxLocals = 1 := hml0
  have hown : s.vm.findClass zs2 = some m.cls := findClass_of_methodNamed Bd.named
  have hnm := (name_of_methodNamed Bd.named Bd.method).1
  have X0 : Stand p l e ({ frames := 0, cells := 0, slots := 0, locals := 0 } : Room) s m #[(.ref a1)] below meth c s₁ [] 0 0 := Stand.of_body Bd
  have e0 : s₁.heap = h0 := by rw [← hh, Bd.state]; rfl
  have N0 := Fr.nil n0
  refine own_pre (g' := mkF m 0 (lc9 a1) []) (ef_2 m a1) ?_
  obtain ⟨T3, X3, e3, st3⟩ := getF X0 hx hZ hown (host := "") (Or.inl (ww hw 32 rfl)) Via.refl e0 F2 (g := (mkF m 1 (lc9 a1) [(.ref a1)])) rfl rfl (hb hby d4_1)
  refine own_go (U' := T3.setTop (mkF m 4 (lc9 a1) [(.int 3)])) (fun t k => oaloadN X0 hx hby d4_0 rfl rfl (st3 _ k)) ?_
  obtain ⟨T6, X6, e6, st6⟩ := getF X3 hx hZ hown (host := "") (Or.inl (ww hw 20 rfl)) Via.refl e3 F5 (g := (mkF m 12 (lc9 a1) [(.ref a1)])) rfl rfl (hb hby d4_12)
  obtain ⟨T7, X7, e7, st7⟩ := getF X6 hx hZ hown (host := "") (Or.inl (ww hw 32 rfl)) Via.refl e6 F2 (g := (mkF m 16 (lc9 a1) [(.ref a1), (.ref a4)])) rfl rfl (hb hby d4_16)
  obtain ⟨cl13, Ar13, q13, S13, N13, H13, G13⟩ := id F12
  have hin14 : ¬ ((2 : Int32) < 0 ∨ cl13.slots.size ≤ ((2 : Int32)).toNatClampNeg) := inb_of S13 ⟨by decide, by decide⟩
  have hat14 : cl13.slots[((2 : Int32)).toNatClampNeg]? = some (.ref a10) := Has.at H13 hin14 rfl
  refine own_go (U' := T7.setTop (mkF m 22 (lc9 a1) [(.ref a10)])) (fun t k => oifY (pc := 4) X3 hx hby d4_4 11 (by decide) (by decide) (oaloadN X3 hx hby d4_11 rfl rfl (st6 _ (oaloadN X6 hx hby d4_15 rfl rfl (st7 _ (oiconst X7 hx hby d4_19 (oisub X7 hx hby d4_20 (X7.aaload hx (j := (2 : Int32)) (v := (.ref a10)) (by rw [e7]; exact Ar13.1) (State.isArrayOf_alike hZ.alike Ar13.2.1) rfl Ar13.2.2 hin14 hat14 (g := (mkF m 21 (lc9 a1) [(.int 2), (.ref a4)])) rfl rfl (hb hby d4_21) _ k)))))))) ?_
  obtain ⟨fs, hr, hrun, hended, hW, hsame⟩ := X7.leave (v := some (.ref a10)) (fun h => by rw [Bd.returns] at h; cases h)
  refine own_out ⟨_, _, ?_, hrun, hended, _, _, rfl, ?_, ⟨_, rfl⟩, hW, hsame.mono (by decide) (by decide)⟩
  · exact retOut X7 hx Bd.returns rfl (Or.inr (Or.inr (Or.inr (Or.inr ⟨rfl, rfl, rfl⟩)))) (hb hby d4_22) hr
  · show Q4_24 Z a1 a4 a8 a9 a10 kc11 h0 n0 _ T7.heap _
    rw [e7]
    exact ⟨rfl, N0, rfl⟩
def Q6_25 (Z : State) (a1 : Addr) (q2 : Int64) (a4 : Addr) (a11 : Addr) (q14 : Int64) (q15 : Int64) (kc16 : ClassId) (h0 : Heap) (n0 : Nat) (v : Option Value) (h : Heap) (L : List Loc) : Prop := v = some (.int 1) ∧ Fr n0 L ∧ h = h0
set_option maxRecDepth 65536 in
set_option maxHeartbeats 40000000 in
theorem rm6_25 (l : Launch) (Z : State) (a0 : Array Value) (hw : ∀ d ∈ tables_1, d.before a0 Z = true) (ws : List Jvm.Cond) (a1 : Addr) (q2 : Int64) (a4 : Addr) (a11 : Addr) (q14 : Int64) (q15 : Int64) (kc16 : ClassId) (h0 : Heap) (n0 : Nat) (Z0 : n0 ≤ h0.size) (F5 : Fld Z h0 a1 zs2 "side" zs4 (.ref a4)) (F6 : Sta Z h0 zs6 "BUY" zs4 (.ref a4)) (F7 : Exa Z h0 a1 zs2) (F9 : Fld Z h0 a1 zs2 "count" "I" (.int 2)) (F12 : Fld Z h0 a1 zs2 "ranks" "[J" (.ref a11)) (F17 : Arv Z h0 a11 kc16 .long (16 : Int32) [(.long q14), (.long q15)] (.long (0 : Int64))) (hc20 : ¬ (q15 < q2)) (hc26 : q14 < q2) (hc27 : ¬ (q2 = (-9223372036854775808 : Int64))) (hc28 : ¬ (q2 = (9223372036854775807 : Int64))) (hc33 : q15 = q2) :
    MetFree l zm5 (head1 (Jvm.Cond.code zm5 prog_2_method_8_code 11 (some .int) :: ws) ({ frames := 1, cells := 0, slots := 0, locals := 14 } : Room)) (fun a U => a = #[(.ref a1), (.long q2), .null] ∧ Z.Warmed39 U.vm ∧ U.heap = h0) (fun _ _ _ _ _ => True) (fun _ U o U' => ∃ v L, o = .returned v ∧ Q6_25 Z a1 q2 a4 a11 q14 q15 kc16 h0 n0 v U'.heap L ∧ FrameEnd U o U' L ({ frames := 1, cells := 0, slots := 0, locals := 14 } : Room).cells ({ frames := 1, cells := 0, slots := 0, locals := 14 } : Room).slots) := by
  refine MetFree.of_bodySF (plainFor_of_name pn_com_example_srok_srok_engine_BookSide) hisR ?_
  intro p e s m args below meth c s₁ Bd hml0 hP hK
  obtain ⟨rfl, hZ, hh⟩ := hP
  have hx := Bd.exec
  have hby := Bd.bytes
  have hml : c.maxLocals = 11 := hml0
  have hown : s.vm.findClass zs2 = some m.cls := findClass_of_methodNamed Bd.named
  have hnm := (name_of_methodNamed Bd.named Bd.method).1
  have X0 : Stand p l e ({ frames := 1, cells := 0, slots := 0, locals := 14 } : Room) s m #[(.ref a1), (.long q2), .null] below meth c s₁ [] 0 0 := Stand.of_body Bd
  have e0 : s₁.heap = h0 := by rw [← hh, Bd.state]; rfl
  have N0 := Fr.nil n0
  refine own_pre (g' := mkF m 0 (lc11 a1 q2) []) (ef_5 m a1 q2) ?_
  obtain ⟨_, T3, L3, X3, hQ3, st3⟩ := ocallP X0 hx hZ zm3 hown (ww hw 43 rfl) (ww hw 44 rfl) (own_selP (mvT hZ (ww hw 10 rfl)) (mvP hZ (ww hw 45 rfl)) (mvT hZ (ww hw 44 rfl)) (by decide)) (ww hw 45 rfl) (by decide) (ww hw 46 rfl) (ww hw 11 rfl) e0 F7 (rm7_6 l Z a0 hw [] a1 q2 a4 h0 n0 Z0 F5 F6) (st := [(.long q2), (.ref a1)]) rfl 0 rfl (by decide) (pc := 2) (Ls := (lc11 a1 q2)) hml rfl (lenOf pd_0 rfl) d6_2 hby
  obtain ⟨rfl, N3q, e3⟩ := hQ3
  have N8 := Fr.app N0 N3q
  obtain ⟨T10, X10, e10, st10⟩ := getF X3 hx hZ hown (host := "") (Or.inl (ww hw 32 rfl)) Via.refl e3 F9 (g := (mkF m 8 (lc13 a1 q2 q2) [(.ref a1)])) rfl rfl (hb hby d6_8)
  refine own_go (U' := T10.setTop (mkF m 21 (lc15 a1 q2 q2 2 1) [(.int 1)])) (fun t k => oaloadN X0 hx hby d6_0 rfl rfl (olloadN X0 hx hby d6_1 rfl (st3 _ (olstore X3 hx hby d6_5 (lc13 a1 q2 q2) rfl (oaloadN X3 hx hby d6_7 rfl rfl (st10 _ (oistore X10 hx hby d6_11 (lc14 a1 q2 q2 2) rfl (oiconst X10 hx hby d6_13 (oistore X10 hx hby d6_14 (lc15 a1 q2 q2 2 1) rfl (oiload X10 hx hby d6_16 rfl (oiload X10 hx hby d6_18 rfl (oisub X10 hx hby d6_20 k)))))))))))) ?_
  obtain ⟨T13, X13, e13, st13⟩ := getF X10 hx hZ hown (host := "") (Or.inl (ww hw 23 rfl)) Via.refl e10 F12 (g := (mkF m 25 (lc15 a1 q2 q2 2 1) [(.ref a1)])) rfl rfl (hb hby d6_25)
  obtain ⟨cl18, Ar18, q18, S18, N18, H18, G18⟩ := id F17
  have hin19 : ¬ ((1 : Int32) < 0 ∨ cl18.slots.size ≤ ((1 : Int32)).toNatClampNeg) := inb_of S18 ⟨by decide, by decide⟩
  have hat19 : cl18.slots[((1 : Int32)).toNatClampNeg]? = some (.long q15) := Has.at H18 hin19 rfl
  refine own_go (U' := T13.setTop (mkF m 37 (lc15 a1 q2 q2 2 1) [(.int (lcmpW q15 q2))])) (fun t k => oifN X10 hx hby d6_21 (by decide) (oaloadN X10 hx hby d6_24 rfl rfl (st13 _ (oiload X13 hx hby d6_28 rfl (oiload X13 hx hby d6_30 rfl (oisub X13 hx hby d6_32 (X13.laload hx (j := (1 : Int32)) (v := (.long q15)) (by rw [e13]; exact Ar18.1) (State.isArrayOf_alike hZ.alike Ar18.2.1) Ar18.2.2 hin19 hat19 (g := (mkF m 33 (lc15 a1 q2 q2 2 1) [(.int 1), (.ref a11)])) rfl rfl (hb hby d6_33) _ (olload X13 hx hby d6_34 rfl (olcmp X13 hx hby d6_36 k))))))))) ?_
  refine own_go (U' := T13.setTop (mkF m 16 (lc15 a1 q2 q2 1 2) [])) (fun t k => oifN X13 hx hby d6_37 (own_ll_lt_f hc20) (oiload X13 hx hby d6_40 rfl (oiload X13 hx hby d6_42 rfl (oisub X13 hx hby d6_44 (oistore X13 hx hby d6_45 (lc15 a1 q2 q2 1 1) rfl (oiload X13 hx hby d6_47 rfl (oiconst X13 hx hby d6_49 (oimul X13 hx hby d6_50 (oistore X13 hx hby d6_51 (lc15 a1 q2 q2 1 2) rfl (ogoto (pc := 53) X13 hx hby d6_53 16 (by decide) k)))))))))) ?_
  refine own_go (U' := T13.setTop (mkF m 21 (lc15 a1 q2 q2 1 2) [(.int ((1 : Int32) - (2 : Int32)))])) (fun t k => oiload X13 hx hby d6_16 rfl (oiload X13 hx hby d6_18 rfl (oisub X13 hx hby d6_20 k))) ?_
  rw [show ((1 : Int32) - (2 : Int32)) = (-1 : Int32) from by decide]
  refine own_go (U' := T13.setTop (mkF m 62 (lc15 a1 q2 q2 1 2) [(.int ((1 : Int32) - (2 : Int32))), (.int 0)])) (fun t k => oifY (pc := 21) X13 hx hby d6_21 56 (by decide) (by decide) (oiconst X13 hx hby d6_56 (oiload X13 hx hby d6_57 rfl (oiload X13 hx hby d6_59 rfl (oisub X13 hx hby d6_61 k))))) ?_
  rw [show ((1 : Int32) - (2 : Int32)) = (-1 : Int32) from by decide]
  refine own_go (U' := T13.setTop (mkF m 64 (lc15 a1 q2 q2 1 2) [(.int ((-1 : Int32) + (1 : Int32))), (.int 0)])) (fun t k => oiconst X13 hx hby d6_62 (oiadd X13 hx hby d6_63 k)) ?_
  rw [show ((-1 : Int32) + (1 : Int32)) = (0 : Int32) from by decide]
  obtain ⟨_, T21, L21, X21, hQ21, st21⟩ := ocallS X13 hx hZ zm4 hown (ww hw 48 rfl) (ww hw 49 rfl) (by decide) (ww hw 51 rfl) (ww hw 50 rfl) e13 (rm8_7 l Z a0 hw []  h0 n0 Z0 ) (st := [(.int 0), (.int 0)]) rfl 0 rfl (by decide) (pc := 64) (Ls := (lc15 a1 q2 q2 1 2)) hml rfl (lenOf pd_3 rfl) d6_64 hby
  obtain ⟨rfl, N21q, e21⟩ := hQ21
  have N22 := Fr.app N8 N21q
  refine own_go (U' := T21.setTop (mkF m 79 (lc18 a1 q2 q2 1 2 0 1) [(.int 1), (.int 1)])) (fun t k => st21 _ (oistore X21 hx hby d6_67 (lc17 a1 q2 q2 1 2 0) rfl (oiload X21 hx hby d6_69 rfl (oiload X21 hx hby d6_71 rfl (oisub X21 hx hby d6_73 (oistore X21 hx hby d6_74 (lc18 a1 q2 q2 1 2 0 1) rfl (oiload X21 hx hby d6_76 rfl (oiconst X21 hx hby d6_78 k)))))))) ?_
  refine own_go (U' := T21.setTop (mkF m 132 (lc18 a1 q2 q2 1 2 0 1) [(.int 1), (.int 0)])) (fun t k => oicY (pc := 79) X21 hx hby d6_79 128 (by decide) (by decide) (oiload X21 hx hby d6_128 rfl (oiload X21 hx hby d6_130 rfl k))) ?_
  obtain ⟨T23, X23, e23, st23⟩ := getF X21 hx hZ hown (host := "") (Or.inl (ww hw 23 rfl)) Via.refl e21 F12 (g := (mkF m 136 (lc18 a1 q2 q2 1 2 0 1) [(.ref a1)])) rfl rfl (hb hby d6_136)
  obtain ⟨cl24, Ar24, q24, S24, N24, H24, G24⟩ := id F17
  have hin25 : ¬ ((0 : Int32) < 0 ∨ cl24.slots.size ≤ ((0 : Int32)).toNatClampNeg) := inb_of S24 ⟨by decide, by decide⟩
  have hat25 : cl24.slots[((0 : Int32)).toNatClampNeg]? = some (.long q14) := Has.at H24 hin25 rfl
  refine own_go (U' := T23.setTop (mkF m 145 (lc18 a1 q2 q2 1 2 0 1) [(.int (lcmpW q14 q2))])) (fun t k => oicN X21 hx hby d6_132 (by decide) (oaloadN X21 hx hby d6_135 rfl rfl (st23 _ (oiload X23 hx hby d6_139 rfl (X23.laload hx (j := (0 : Int32)) (v := (.long q14)) (by rw [e23]; exact Ar24.1) (State.isArrayOf_alike hZ.alike Ar24.2.1) Ar24.2.2 hin25 hat25 (g := (mkF m 141 (lc18 a1 q2 q2 1 2 0 1) [(.int 0), (.ref a11)])) rfl rfl (hb hby d6_141) _ (olload X23 hx hby d6_142 rfl (olcmp X23 hx hby d6_144 k))))))) ?_
  refine own_go (U' := T23.setTop (mkF m 157 (lc18 a1 q2 q2 1 2 1 1) [(.int (lcmpW q2 (-9223372036854775808 : Int64)))])) (fun t k => oifN X23 hx hby d6_145 (own_ll_ge_f hc26) (oiinc X23 hx hby d6_148 (lc18 a1 q2 q2 1 2 1 1) rfl rfl (olload X23 hx hby d6_151 rfl (X23.ldc2Long hx hown (mvT hZ (ww hw 52 rfl)) (g := (mkF m 153 (lc18 a1 q2 q2 1 2 1 1) [(.long q2)])) rfl (hb hby d6_153) _ (olcmp X23 hx hby d6_156 k))))) ?_
  refine own_go (U' := T23.setTop (mkF m 166 (lc18 a1 q2 q2 1 2 1 1) [(.int (lcmpW q2 (9223372036854775807 : Int64)))])) (fun t k => oifN X23 hx hby d6_157 (own_ll_eq_f hc27) (olload X23 hx hby d6_160 rfl (X23.ldc2Long hx hown (mvT hZ (ww hw 53 rfl)) (g := (mkF m 162 (lc18 a1 q2 q2 1 2 1 1) [(.long q2)])) rfl (hb hby d6_162) _ (olcmp X23 hx hby d6_165 k)))) ?_
  refine own_go (U' := T23.setTop (mkF m 178 (lc18 a1 q2 q2 1 2 1 1) [(.int 1)])) (fun t k => oifN X23 hx hby d6_166 (own_ll_eq_f hc28) (oiconst X23 hx hby d6_169 (ogoto (pc := 170) X23 hx hby d6_170 174 (by decide) (oistore X23 hx hby d6_174 (lc18 a1 q2 q2 1 2 1 1) rfl (oiload X23 hx hby d6_176 rfl k))))) ?_
  obtain ⟨T29, X29, e29, st29⟩ := getF X23 hx hZ hown (host := "") (Or.inl (ww hw 32 rfl)) Via.refl e23 F9 (g := (mkF m 230 (lc18 a1 q2 q2 1 2 1 1) [(.ref a1), (.int 1)])) rfl rfl (hb hby d6_230)
  refine own_go (U' := T29.setTop (mkF m 233 (lc18 a1 q2 q2 1 2 1 1) [(.int 2), (.int 1)])) (fun t k => oifY (pc := 178) X23 hx hby d6_178 227 (by decide) (by decide) (oiload X23 hx hby d6_227 rfl (oaloadN X23 hx hby d6_229 rfl rfl (st29 _ k)))) ?_
  obtain ⟨T30, X30, e30, st30⟩ := getF X29 hx hZ hown (host := "") (Or.inl (ww hw 23 rfl)) Via.refl e29 F12 (g := (mkF m 237 (lc18 a1 q2 q2 1 2 1 1) [(.ref a1)])) rfl rfl (hb hby d6_237)
  obtain ⟨cl31, Ar31, q31, S31, N31, H31, G31⟩ := id F17
  have hin32 : ¬ ((1 : Int32) < 0 ∨ cl31.slots.size ≤ ((1 : Int32)).toNatClampNeg) := inb_of S31 ⟨by decide, by decide⟩
  have hat32 : cl31.slots[((1 : Int32)).toNatClampNeg]? = some (.long q15) := Has.at H31 hin32 rfl
  refine own_go (U' := T30.setTop (mkF m 246 (lc18 a1 q2 q2 1 2 1 1) [(.int (lcmpW q15 q2))])) (fun t k => oicN X29 hx hby d6_233 (by decide) (oaloadN X29 hx hby d6_236 rfl rfl (st30 _ (oiload X30 hx hby d6_240 rfl (X30.laload hx (j := (1 : Int32)) (v := (.long q15)) (by rw [e30]; exact Ar31.1) (State.isArrayOf_alike hZ.alike Ar31.2.1) Ar31.2.2 hin32 hat32 (g := (mkF m 242 (lc18 a1 q2 q2 1 2 1 1) [(.int 1), (.ref a11)])) rfl rfl (hb hby d6_242) _ (olload X30 hx hby d6_243 rfl (olcmp X30 hx hby d6_245 k))))))) ?_
  refine own_go (U' := T30.setTop (mkF m 251 (lc18 a1 q2 q2 1 2 1 1) [(.int 1)])) (fun t k => oifN X30 hx hby d6_246 (own_ll_ne_f hc33) (oiload X30 hx hby d6_249 rfl k)) ?_
  refine own_go (U' := T30.setTop (mkF m 280 (lc19 a1 q2 q2 1 2 1 1 1) [(.int 1)])) (fun t k => oifY (pc := 251) X30 hx hby d6_251 271 (by decide) (by decide) (oiconst X30 hx hby d6_271 (ogoto (pc := 272) X30 hx hby d6_272 276 (by decide) (oistore X30 hx hby d6_276 (lc19 a1 q2 q2 1 2 1 1 1) rfl (oiload X30 hx hby d6_278 rfl k))))) ?_
  refine own_go (U' := T30.setTop (mkF m 292 (lc19 a1 q2 q2 1 2 1 1 1) [(.int 1)])) (fun t k => oifN X30 hx hby d6_280 (by decide) (oiload X30 hx hby d6_283 rfl (ogoto (pc := 285) X30 hx hby d6_285 292 (by decide) k))) ?_
  obtain ⟨fs, hr, hrun, hended, hW, hsame⟩ := X30.leave (v := some (.int 1)) (fun h => by rw [Bd.returns] at h; cases h)
  refine own_out ⟨_, _, ?_, hrun, hended, _, _, rfl, ?_, ⟨_, rfl⟩, hW, hsame.mono (by decide) (by decide)⟩
  · exact retI X30 hx Bd.returns (hb hby d6_292) hr
  · show Q6_25 Z a1 q2 a4 a11 q14 q15 kc16 h0 n0 _ T30.heap _
    rw [e30]
    exact ⟨rfl, N22, rfl⟩
def Qmg6_26 (Z : State) (a1 : Addr) (q2 : Int64) (a3 : Addr) (a8 : Addr) (q10 : Int64) (q11 : Int64) (kc12 : ClassId) (h0 : Heap) (n0 : Nat) (v : Option Value) (h : Heap) (L : List Loc) : Prop := v = some (.int 1) ∧ Fr n0 L ∧ h = h0
theorem mg6_26 (l : Launch) (Z : State) (a0 : Array Value) (hw : ∀ d ∈ tables_1, d.before a0 Z = true) (ws : List Jvm.Cond) (a1 : Addr) (q2 : Int64) (a3 : Addr) (a8 : Addr) (q10 : Int64) (q11 : Int64) (kc12 : ClassId) (h0 : Heap) (n0 : Nat) (Z0 : n0 ≤ h0.size) (F4 : Fld Z h0 a1 zs2 "side" zs4 (.ref a3)) (F5 : Sta Z h0 zs6 "BUY" zs4 (.ref a3)) (F6 : Exa Z h0 a1 zs2) (F7 : Fld Z h0 a1 zs2 "count" "I" (.int 2)) (F9 : Fld Z h0 a1 zs2 "ranks" "[J" (.ref a8)) (F13 : Arv Z h0 a8 kc12 .long (16 : Int32) [(.long q10), (.long q11)] (.long (0 : Int64))) (hc14 : ¬ (q11 < q2)) (hc15 : q10 < q2) (hc16 : ¬ (q2 = (-9223372036854775808 : Int64))) (hc17 : ¬ (q2 = (9223372036854775807 : Int64))) (hc18 : q11 = q2) :
    MetFree l zm5 (head1 (Jvm.Cond.code zm5 prog_2_method_8_code 11 (some .int) :: ws) ({ frames := 1, cells := 0, slots := 0, locals := 14 } : Room)) (fun a U => a = #[(.ref a1), (.long q2), .null] ∧ Z.Warmed39 U.vm ∧ U.heap = h0) (fun _ _ _ _ _ => True) (fun _ U o U' => ∃ v L, o = .returned v ∧ Qmg6_26 Z a1 q2 a3 a8 q10 q11 kc12 h0 n0 v U'.heap L ∧ FrameEnd U o U' L ({ frames := 1, cells := 0, slots := 0, locals := 14 } : Room).cells ({ frames := 1, cells := 0, slots := 0, locals := 14 } : Room).slots) := by
  exact rm6_25 l Z a0 hw ws a1 q2 a3 a8 q10 q11 kc12 h0 n0 Z0 F4 F5 F6 F7 F9 F13 hc14 hc15 hc16 hc17 hc18
def Q11_27 (Z : State) (a1 : Addr) (h0 : Heap) (n0 : Nat) (v : Option Value) (h : Heap) (L : List Loc) : Prop := v = some (.int 1) ∧ Fr n0 L ∧ h = h0
set_option maxRecDepth 65536 in
set_option maxHeartbeats 40000000 in
theorem rm11_27 (l : Launch) (Z : State) (a0 : Array Value) (hw : ∀ d ∈ tables_1, d.before a0 Z = true) (ws : List Jvm.Cond) (a1 : Addr) (h0 : Heap) (n0 : Nat) (Z0 : n0 ≤ h0.size) (F2 : Fld Z h0 a1 zs1 "first" zs11 .null) :
    MetFree l zm9 (head1 (Jvm.Cond.code zm9 prog_14_method_4_code 1 (some .boolean) :: ws) ({ frames := 0, cells := 0, slots := 0, locals := 0 } : Room)) (fun a U => a = #[(.ref a1)] ∧ Z.Warmed39 U.vm ∧ U.heap = h0) (fun _ _ _ _ _ => True) (fun _ U o U' => ∃ v L, o = .returned v ∧ Q11_27 Z a1 h0 n0 v U'.heap L ∧ FrameEnd U o U' L ({ frames := 0, cells := 0, slots := 0, locals := 0 } : Room).cells ({ frames := 0, cells := 0, slots := 0, locals := 0 } : Room).slots) := by
  refine MetFree.of_bodySF (plainFor_of_name pn_com_example_srok_srok_engine_PriceLevel) hisR ?_
  intro p e s m args below meth c s₁ Bd hml0 hP hK
  obtain ⟨rfl, hZ, hh⟩ := hP
  have hx := Bd.exec
  have hby := Bd.bytes
  have hml : c.maxLocals = 1 := hml0
  have hown : s.vm.findClass zs1 = some m.cls := findClass_of_methodNamed Bd.named
  have hnm := (name_of_methodNamed Bd.named Bd.method).1
  have X0 : Stand p l e ({ frames := 0, cells := 0, slots := 0, locals := 0 } : Room) s m #[(.ref a1)] below meth c s₁ [] 0 0 := Stand.of_body Bd
  have e0 : s₁.heap = h0 := by rw [← hh, Bd.state]; rfl
  have N0 := Fr.nil n0
  refine own_pre (g' := mkF m 0 (lc9 a1) []) (ef_2 m a1) ?_
  obtain ⟨T3, X3, e3, st3⟩ := getF X0 hx hZ hown (host := "") (Or.inl (ww hw 77 rfl)) Via.refl e0 F2 (g := (mkF m 1 (lc9 a1) [(.ref a1)])) rfl rfl (hb hby d11_1)
  refine own_go (U' := T3.setTop (mkF m 12 (lc9 a1) [(.int 1)])) (fun t k => oaloadN X0 hx hby d11_0 rfl rfl (st3 _ (onnN X3 hx hby d11_4 (oiconst X3 hx hby d11_7 (ogoto (pc := 8) X3 hx hby d11_8 12 (by decide) k))))) ?_
  obtain ⟨fs, hr, hrun, hended, hW, hsame⟩ := X3.leave (v := some (.int 1)) (fun h => by rw [Bd.returns] at h; cases h)
  refine own_out ⟨_, _, ?_, hrun, hended, _, _, rfl, ?_, ⟨_, rfl⟩, hW, hsame.mono (by decide) (by decide)⟩
  · exact retN X3 hx (t := .boolean) Bd.returns (by simp) (hb hby d11_12) hr
  · show Q11_27 Z a1 h0 n0 _ T3.heap _
    rw [e3]
    exact ⟨rfl, N0, rfl⟩
def Q5_28 (Z : State) (a1 : Addr) (q2 : Int64) (a4 : Addr) (a9 : Addr) (q11 : Int64) (q12 : Int64) (kc13 : ClassId) (a21 : Addr) (a24 : Addr) (a25 : Addr) (kc26 : ClassId) (h0 : Heap) (n0 : Nat) (v : Option Value) (h : Heap) (L : List Loc) : Prop := v = some (.ref a25) ∧ Fr n0 L ∧ Keep h0 h [a1] ∧ Fld Z h a1 zs2 "side" zs4 (.ref a4) ∧ Fld Z h a1 zs2 "count" "I" (.int 2) ∧ Fld Z h a1 zs2 "ranks" "[J" (.ref a9) ∧ Fld Z h a1 zs2 "levels" zs3 (.ref a21) ∧ Fld Z h a1 zs2 "emptyLevels" "I" (.int (-1))
set_option maxRecDepth 65536 in
set_option maxHeartbeats 40000000 in
theorem rm5_28 (l : Launch) (Z : State) (a0 : Array Value) (hw : ∀ d ∈ tables_1, d.before a0 Z = true) (ws : List Jvm.Cond) (a1 : Addr) (q2 : Int64) (a4 : Addr) (a9 : Addr) (q11 : Int64) (q12 : Int64) (kc13 : ClassId) (a21 : Addr) (a24 : Addr) (a25 : Addr) (kc26 : ClassId) (h0 : Heap) (n0 : Nat) (Z0 : n0 ≤ h0.size) (F5 : Fld Z h0 a1 zs2 "side" zs4 (.ref a4)) (F6 : Sta Z h0 zs6 "BUY" zs4 (.ref a4)) (F7 : Exa Z h0 a1 zs2) (F8 : Fld Z h0 a1 zs2 "count" "I" (.int 2)) (F10 : Fld Z h0 a1 zs2 "ranks" "[J" (.ref a9)) (F14 : Arv Z h0 a9 kc13 .long (16 : Int32) [(.long q11), (.long q12)] (.long (0 : Int64))) (hc15 : ¬ (q12 < q2)) (hc16 : q11 < q2) (hc17 : ¬ (q2 = (-9223372036854775808 : Int64))) (hc18 : ¬ (q2 = (9223372036854775807 : Int64))) (hc19 : q12 = q2) (F22 : Fld Z h0 a1 zs2 "levels" zs3 (.ref a21)) (F27 : Arv Z h0 a21 kc26 (.object zs1) (16 : Int32) [(.ref a24), (.ref a25)] .null) (F31 : Exa Z h0 a25 zs1) (F32 : Fld Z h0 a25 zs1 "first" zs11 .null) (F34 : Fld Z h0 a1 zs2 "emptyLevels" "I" (.int 0)) (g37 : n0 ≤ a1) (ne42 : a21 ≠ a1) :
    MetFree l zm7 (head1 (Jvm.Cond.code zm7 prog_2_method_5_code 7 (some (.object zs1)) :: ws) ({ frames := 2, cells := 0, slots := 0, locals := 36 } : Room)) (fun a U => a = #[(.ref a1), (.long q2), .null] ∧ Z.Warmed39 U.vm ∧ U.heap = h0) (fun _ _ _ _ _ => True) (fun _ U o U' => ∃ v L, o = .returned v ∧ Q5_28 Z a1 q2 a4 a9 q11 q12 kc13 a21 a24 a25 kc26 h0 n0 v U'.heap L ∧ FrameEnd U o U' L ({ frames := 2, cells := 0, slots := 0, locals := 36 } : Room).cells ({ frames := 2, cells := 0, slots := 0, locals := 36 } : Room).slots) := by
  refine MetFree.of_bodySF (plainFor_of_name pn_com_example_srok_srok_engine_BookSide) hisR ?_
  intro p e s m args below meth c s₁ Bd hml0 hP hK
  obtain ⟨rfl, hZ, hh⟩ := hP
  have hx := Bd.exec
  have hby := Bd.bytes
  have hml : c.maxLocals = 7 := hml0
  have hown : s.vm.findClass zs2 = some m.cls := findClass_of_methodNamed Bd.named
  have hnm := (name_of_methodNamed Bd.named Bd.method).1
  have X0 : Stand p l e ({ frames := 2, cells := 0, slots := 0, locals := 36 } : Room) s m #[(.ref a1), (.long q2), .null] below meth c s₁ [] 0 0 := Stand.of_body Bd
  have e0 : s₁.heap = h0 := by rw [← hh, Bd.state]; rfl
  have N0 := Fr.nil n0
  refine own_pre (g' := mkF m 0 (lc10 a1 q2) []) (ef_7 m a1 q2) ?_
  obtain ⟨_, T3, L3, X3, hQ3, st3⟩ := ocallP X0 hx hZ zm5 hown (ww hw 39 rfl) (ww hw 40 rfl) (own_selP (mvT hZ (ww hw 10 rfl)) (mvP hZ (ww hw 41 rfl)) (mvT hZ (ww hw 40 rfl)) (by decide)) (ww hw 41 rfl) (by decide) (ww hw 42 rfl) (ww hw 11 rfl) e0 F7 (mg6_26 l Z a0 hw [] a1 q2 a4 a9 q11 q12 kc13 h0 n0 Z0 F5 F6 F7 F8 F10 F14 hc15 hc16 hc17 hc18 hc19) (st := [.null, (.long q2), (.ref a1)]) rfl 0 rfl (by decide) (pc := 3) (Ls := (lc10 a1 q2)) hml rfl (lenOf pd_4 rfl) d5_3 hby
  obtain ⟨rfl, N3q, e3⟩ := hQ3
  have N20 := Fr.app N0 N3q
  refine own_go (U' := T3.setTop (mkF m 10 (lc20 a1 q2 1) [(.int 1)])) (fun t k => oaloadN X0 hx hby d5_0 rfl rfl (olloadN X0 hx hby d5_1 rfl (oaloadN X0 hx hby d5_2 rfl rfl (st3 _ (oistore X3 hx hby d5_6 (lc20 a1 q2 1) rfl (oiload X3 hx hby d5_8 rfl k)))))) ?_
  obtain ⟨T23, X23, e23, st23⟩ := getF X3 hx hZ hown (host := "") (Or.inl (ww hw 20 rfl)) Via.refl e3 F22 (g := (mkF m 14 (lc20 a1 q2 1) [(.ref a1)])) rfl rfl (hb hby d5_14)
  obtain ⟨cl28, Ar28, q28, S28, N28, H28, G28⟩ := id F27
  have hin29 : ¬ ((1 : Int32) < 0 ∨ cl28.slots.size ≤ ((1 : Int32)).toNatClampNeg) := inb_of S28 ⟨by decide, by decide⟩
  have hat29 : cl28.slots[((1 : Int32)).toNatClampNeg]? = some (.ref a25) := Has.at H28 hin29 rfl
  obtain ⟨_, T30, L30, X30, hQ30, st30⟩ := ocallV X23 hx hZ zm9 zm9 hown (ww hw 72 rfl) (ww hw 73 rfl) (notFace_of_selects (args := #[]) (mvT hZ (ww hw 75 rfl))) (ww hw 75 rfl) (ww hw 74 rfl) (by decide) (ww hw 76 rfl) (ww hw 59 rfl) e23 F31 (rm11_27 l Z a0 hw [] a25 h0 n0 Z0 F32) (st := [(.ref a25)]) rfl 0 rfl (by decide) (pc := 20) (Ls := (lc20 a1 q2 1)) hml rfl (lenOf pd_8 rfl) d5_20 hby
  obtain ⟨rfl, N30q, e30⟩ := hQ30
  have N33 := Fr.app N20 N30q
  refine own_go (U' := T30.setTop (mkF m 23 (lc20 a1 q2 1) [(.int 1)])) (fun t k => oifN X3 hx hby d5_10 (by decide) (oaloadN X3 hx hby d5_13 rfl rfl (st23 _ (oiload X23 hx hby d5_17 rfl (X23.aaload hx (j := (1 : Int32)) (v := (.ref a25)) (by rw [e23]; exact Ar28.1) (State.isArrayOf_alike hZ.alike Ar28.2.1) rfl Ar28.2.2 hin29 hat29 (g := (mkF m 19 (lc20 a1 q2 1) [(.int 1), (.ref a21)])) rfl rfl (hb hby d5_19) _ (st30 _ k)))))) ?_
  obtain ⟨T35, X35, e35, st35⟩ := getF X30 hx hZ hown (host := "") (Or.inl (ww hw 79 rfl)) Via.refl e30 F34 (g := (mkF m 28 (lc20 a1 q2 1) [(.ref a1), (.ref a1)])) rfl rfl (hb hby d5_28)
  refine own_go (U' := T35.setTop (mkF m 33 (lc20 a1 q2 1) [(.int ((0 : Int32) - (1 : Int32))), (.ref a1)])) (fun t k => oifN X30 hx hby d5_23 (by decide) (oaloadN X30 hx hby d5_26 rfl rfl (odup X30 hx hby d5_27 rfl (st35 _ (oiconst X35 hx hby d5_31 (oisub X35 hx hby d5_32 k)))))) ?_
  rw [show ((0 : Int32) - (1 : Int32)) = (-1 : Int32) from by decide]
  obtain ⟨T36, h36, X36, e36, W36, st36⟩ := putF X35 hx hZ hown (host := "") (Or.inl (ww hw 79 rfl)) Via.refl e35 F34 F7 (Or.inl (ww hw 80 rfl)) (ww hw 10 rfl) (ty := .int) (by decide) rfl rfl (g := (mkF m 33 (lc20 a1 q2 1) [(.int (-1)), (.ref a1)])) rfl rfl (hb hby d5_33)
  have N38 := Fr.snoc X36 N33 g37
  have f39 : Fld Z h36 a1 zs2 "emptyLevels" "I" (.int (-1)) := Fld.same W36 F34
  have f40 : Fld Z h36 a1 zs2 "levels" zs3 (.ref a21) := (Fld.other W36 F22 (Or.inr (slot_ne (Or.inl (ww hw 21 rfl)) (Or.inl (ww hw 80 rfl)) (by decide) (t := (.array (.object zs1))) (t' := .int) (by decide) (by decide))))
  obtain ⟨T41, X41, e41, st41⟩ := getF X36 hx hZ hown (host := "") (Or.inl (ww hw 20 rfl)) Via.refl e36 f40 (g := (mkF m 37 (lc20 a1 q2 1) [(.ref a1)])) rfl rfl (hb hby d5_37)
  have f43 : Arv Z h36 a21 kc26 (.object zs1) (16 : Int32) [(.ref a24), (.ref a25)] .null := (F27.other W36 ne42)
  obtain ⟨cl44, Ar44, q44, S44, N44, H44, G44⟩ := id f43
  have hin45 : ¬ ((1 : Int32) < 0 ∨ cl44.slots.size ≤ ((1 : Int32)).toNatClampNeg) := inb_of S44 ⟨by decide, by decide⟩
  have hat45 : cl44.slots[((1 : Int32)).toNatClampNeg]? = some (.ref a25) := Has.at H44 hin45 rfl
  refine own_go (U' := T41.setTop (mkF m 43 (lc20 a1 q2 1) [(.ref a25)])) (fun t k => st36 _ (oaloadN X36 hx hby d5_36 rfl rfl (st41 _ (oiload X41 hx hby d5_40 rfl (X41.aaload hx (j := (1 : Int32)) (v := (.ref a25)) (by rw [e41]; exact Ar44.1) (State.isArrayOf_alike hZ.alike Ar44.2.1) rfl Ar44.2.2 hin45 hat45 (g := (mkF m 42 (lc20 a1 q2 1) [(.int 1), (.ref a21)])) rfl rfl (hb hby d5_42) _ k))))) ?_
  have f46 : Fld Z h36 a1 zs2 "side" zs4 (.ref a4) := (Fld.other W36 F5 (Or.inr (slot_ne (Or.inr (ww hw 26 rfl)) (Or.inl (ww hw 80 rfl)) (by decide) (t := (.object zs6)) (t' := .int) (by decide) (by decide))))
  have f47 : Fld Z h36 a1 zs2 "count" "I" (.int 2) := (Fld.other W36 F8 (Or.inr (slot_ne (Or.inl (ww hw 33 rfl)) (Or.inl (ww hw 80 rfl)) (by decide) (t := .int) (t' := .int) (by decide) (by decide))))
  have f48 : Fld Z h36 a1 zs2 "ranks" "[J" (.ref a9) := (Fld.other W36 F10 (Or.inr (slot_ne (Or.inl (ww hw 24 rfl)) (Or.inl (ww hw 80 rfl)) (by decide) (t := (.array .long)) (t' := .int) (by decide) (by decide))))
  obtain ⟨fs, hr, hrun, hended, hW, hsame⟩ := X41.leave (v := some (.ref a25)) (fun h => by rw [Bd.returns] at h; cases h)
  refine own_out ⟨_, _, ?_, hrun, hended, _, _, rfl, ?_, ⟨_, rfl⟩, hW, hsame.mono (by decide) (by decide)⟩
  · exact retOut X41 hx Bd.returns rfl (Or.inr (Or.inr (Or.inr (Or.inr ⟨rfl, rfl, rfl⟩)))) (hb hby d5_43) hr
  · show Q5_28 Z a1 q2 a4 a9 q11 q12 kc13 a21 a24 a25 kc26 h0 n0 _ T41.heap _
    rw [e41]
    exact ⟨rfl, N38, ((Keep.refl h0 [a1]).wr W36 (Or.inl (List.mem_of_getElem? (i := 0) rfl))), f46, f47, f48, f40, f39⟩
def Q10_29 (Z : State) (q1 : Int64) (q2 : Int64) (h0 : Heap) (n0 : Nat) (v : Option Value) (h : Heap) (L : List Loc) : Prop := v = some (.int 0) ∧ Fr n0 L ∧ h = h0
set_option maxRecDepth 65536 in
set_option maxHeartbeats 40000000 in
theorem rm10_29 (l : Launch) (Z : State) (a0 : Array Value) (hw : ∀ d ∈ tables_1, d.before a0 Z = true) (ws : List Jvm.Cond) (q1 : Int64) (q2 : Int64) (h0 : Heap) (n0 : Nat) (Z0 : n0 ≤ h0.size) (hc3 : ¬ (q2 < q1)) :
    MetFree l zm8 (head1 (Jvm.Cond.code zm8 method_3_code 5 (some .boolean) :: ws) ({ frames := 0, cells := 0, slots := 0, locals := 0 } : Room)) (fun a U => a = #[(.int 1), (.long q1), (.long q2)] ∧ Z.Warmed39 U.vm ∧ U.heap = h0) (fun _ _ _ _ _ => True) (fun _ U o U' => ∃ v L, o = .returned v ∧ Q10_29 Z q1 q2 h0 n0 v U'.heap L ∧ FrameEnd U o U' L ({ frames := 0, cells := 0, slots := 0, locals := 0 } : Room).cells ({ frames := 0, cells := 0, slots := 0, locals := 0 } : Room).slots) := by
  refine MetFree.of_bodySF (plainFor_of_name pn_com_example_srok_srok_engine_BookSideBestPinLaw) hisR ?_
  intro p e s m args below meth c s₁ Bd hml0 hP hK
  obtain ⟨rfl, hZ, hh⟩ := hP
  have hx := Bd.exec
  have hby := Bd.bytes
  have hml : c.maxLocals = 5 := hml0
  have hown : s.vm.findClass zs0 = some m.cls := findClass_of_methodNamed Bd.named
  have hnm := (name_of_methodNamed Bd.named Bd.method).1
  have X0 : Stand p l e ({ frames := 0, cells := 0, slots := 0, locals := 0 } : Room) s m #[(.int 1), (.long q1), (.long q2)] below meth c s₁ [] 0 0 := Stand.of_body Bd
  have e0 : s₁.heap = h0 := by rw [← hh, Bd.state]; rfl
  have N0 := Fr.nil n0
  refine own_pre (g' := mkF m 0 (lc26 1 q1 q2) []) (ef_8 m (1 : Int32) q1 q2) ?_
  refine own_go (U' := s₁.setTop (mkF m 1 (lc26 1 q1 q2) [(.int 1)])) (fun t k => oiloadN X0 hx hby d10_0 rfl k) ?_
  refine own_go (U' := s₁.setTop (mkF m 7 (lc26 1 q1 q2) [(.int (lcmpW q1 q2))])) (fun t k => oifN X0 hx hby d10_1 (by decide) (olloadN X0 hx hby d10_4 rfl (olloadN X0 hx hby d10_5 rfl (olcmp X0 hx hby d10_6 k)))) ?_
  refine own_go (U' := s₁.setTop (mkF m 29 (lc26 1 q1 q2) [(.int 0)])) (fun t k => oifY (pc := 7) X0 hx hby d10_7 14 (own_ll_le_t hc3) (by decide) (oiconst X0 hx hby d10_14 (ogoto (pc := 15) X0 hx hby d10_15 29 (by decide) k))) ?_
  obtain ⟨fs, hr, hrun, hended, hW, hsame⟩ := X0.leave (v := some (.int 0)) (fun h => by rw [Bd.returns] at h; cases h)
  refine own_out ⟨_, _, ?_, hrun, hended, _, _, rfl, ?_, ⟨_, rfl⟩, hW, hsame.mono (by decide) (by decide)⟩
  · exact retN X0 hx (t := .boolean) Bd.returns (by simp) (hb hby d10_29) hr
  · show Q10_29 Z q1 q2 h0 n0 _ s₁.heap _
    rw [e0]
    exact ⟨rfl, N0, rfl⟩
def Q6_30 (Z : State) (a1 : Addr) (q2 : Int64) (a4 : Addr) (a11 : Addr) (q14 : Int64) (q15 : Int64) (kc16 : ClassId) (h0 : Heap) (n0 : Nat) (v : Option Value) (h : Heap) (L : List Loc) : Prop := v = some (.int (-2)) ∧ Fr n0 L ∧ h = h0
set_option maxRecDepth 65536 in
set_option maxHeartbeats 40000000 in
theorem rm6_30 (l : Launch) (Z : State) (a0 : Array Value) (hw : ∀ d ∈ tables_1, d.before a0 Z = true) (ws : List Jvm.Cond) (a1 : Addr) (q2 : Int64) (a4 : Addr) (a11 : Addr) (q14 : Int64) (q15 : Int64) (kc16 : ClassId) (h0 : Heap) (n0 : Nat) (Z0 : n0 ≤ h0.size) (F5 : Fld Z h0 a1 zs2 "side" zs4 (.ref a4)) (F6 : Sta Z h0 zs6 "BUY" zs4 (.ref a4)) (F7 : Exa Z h0 a1 zs2) (F9 : Fld Z h0 a1 zs2 "count" "I" (.int 2)) (F12 : Fld Z h0 a1 zs2 "ranks" "[J" (.ref a11)) (F17 : Arv Z h0 a11 kc16 .long (16 : Int32) [(.long q14), (.long q15)] (.long (0 : Int64))) (hc20 : ¬ (q15 < q2)) (hc26 : q14 < q2) (hc27 : ¬ (q2 = (-9223372036854775808 : Int64))) (hc28 : ¬ (q2 = (9223372036854775807 : Int64))) (hc33 : ¬ (q15 = q2)) :
    MetFree l zm5 (head1 (Jvm.Cond.code zm5 prog_2_method_8_code 11 (some .int) :: ws) ({ frames := 1, cells := 0, slots := 0, locals := 14 } : Room)) (fun a U => a = #[(.ref a1), (.long q2), .null] ∧ Z.Warmed39 U.vm ∧ U.heap = h0) (fun _ _ _ _ _ => True) (fun _ U o U' => ∃ v L, o = .returned v ∧ Q6_30 Z a1 q2 a4 a11 q14 q15 kc16 h0 n0 v U'.heap L ∧ FrameEnd U o U' L ({ frames := 1, cells := 0, slots := 0, locals := 14 } : Room).cells ({ frames := 1, cells := 0, slots := 0, locals := 14 } : Room).slots) := by
  refine MetFree.of_bodySF (plainFor_of_name pn_com_example_srok_srok_engine_BookSide) hisR ?_
  intro p e s m args below meth c s₁ Bd hml0 hP hK
  obtain ⟨rfl, hZ, hh⟩ := hP
  have hx := Bd.exec
  have hby := Bd.bytes
  have hml : c.maxLocals = 11 := hml0
  have hown : s.vm.findClass zs2 = some m.cls := findClass_of_methodNamed Bd.named
  have hnm := (name_of_methodNamed Bd.named Bd.method).1
  have X0 : Stand p l e ({ frames := 1, cells := 0, slots := 0, locals := 14 } : Room) s m #[(.ref a1), (.long q2), .null] below meth c s₁ [] 0 0 := Stand.of_body Bd
  have e0 : s₁.heap = h0 := by rw [← hh, Bd.state]; rfl
  have N0 := Fr.nil n0
  refine own_pre (g' := mkF m 0 (lc11 a1 q2) []) (ef_5 m a1 q2) ?_
  obtain ⟨_, T3, L3, X3, hQ3, st3⟩ := ocallP X0 hx hZ zm3 hown (ww hw 43 rfl) (ww hw 44 rfl) (own_selP (mvT hZ (ww hw 10 rfl)) (mvP hZ (ww hw 45 rfl)) (mvT hZ (ww hw 44 rfl)) (by decide)) (ww hw 45 rfl) (by decide) (ww hw 46 rfl) (ww hw 11 rfl) e0 F7 (rm7_6 l Z a0 hw [] a1 q2 a4 h0 n0 Z0 F5 F6) (st := [(.long q2), (.ref a1)]) rfl 0 rfl (by decide) (pc := 2) (Ls := (lc11 a1 q2)) hml rfl (lenOf pd_0 rfl) d6_2 hby
  obtain ⟨rfl, N3q, e3⟩ := hQ3
  have N8 := Fr.app N0 N3q
  obtain ⟨T10, X10, e10, st10⟩ := getF X3 hx hZ hown (host := "") (Or.inl (ww hw 32 rfl)) Via.refl e3 F9 (g := (mkF m 8 (lc13 a1 q2 q2) [(.ref a1)])) rfl rfl (hb hby d6_8)
  refine own_go (U' := T10.setTop (mkF m 21 (lc15 a1 q2 q2 2 1) [(.int 1)])) (fun t k => oaloadN X0 hx hby d6_0 rfl rfl (olloadN X0 hx hby d6_1 rfl (st3 _ (olstore X3 hx hby d6_5 (lc13 a1 q2 q2) rfl (oaloadN X3 hx hby d6_7 rfl rfl (st10 _ (oistore X10 hx hby d6_11 (lc14 a1 q2 q2 2) rfl (oiconst X10 hx hby d6_13 (oistore X10 hx hby d6_14 (lc15 a1 q2 q2 2 1) rfl (oiload X10 hx hby d6_16 rfl (oiload X10 hx hby d6_18 rfl (oisub X10 hx hby d6_20 k)))))))))))) ?_
  obtain ⟨T13, X13, e13, st13⟩ := getF X10 hx hZ hown (host := "") (Or.inl (ww hw 23 rfl)) Via.refl e10 F12 (g := (mkF m 25 (lc15 a1 q2 q2 2 1) [(.ref a1)])) rfl rfl (hb hby d6_25)
  obtain ⟨cl18, Ar18, q18, S18, N18, H18, G18⟩ := id F17
  have hin19 : ¬ ((1 : Int32) < 0 ∨ cl18.slots.size ≤ ((1 : Int32)).toNatClampNeg) := inb_of S18 ⟨by decide, by decide⟩
  have hat19 : cl18.slots[((1 : Int32)).toNatClampNeg]? = some (.long q15) := Has.at H18 hin19 rfl
  refine own_go (U' := T13.setTop (mkF m 37 (lc15 a1 q2 q2 2 1) [(.int (lcmpW q15 q2))])) (fun t k => oifN X10 hx hby d6_21 (by decide) (oaloadN X10 hx hby d6_24 rfl rfl (st13 _ (oiload X13 hx hby d6_28 rfl (oiload X13 hx hby d6_30 rfl (oisub X13 hx hby d6_32 (X13.laload hx (j := (1 : Int32)) (v := (.long q15)) (by rw [e13]; exact Ar18.1) (State.isArrayOf_alike hZ.alike Ar18.2.1) Ar18.2.2 hin19 hat19 (g := (mkF m 33 (lc15 a1 q2 q2 2 1) [(.int 1), (.ref a11)])) rfl rfl (hb hby d6_33) _ (olload X13 hx hby d6_34 rfl (olcmp X13 hx hby d6_36 k))))))))) ?_
  refine own_go (U' := T13.setTop (mkF m 16 (lc15 a1 q2 q2 1 2) [])) (fun t k => oifN X13 hx hby d6_37 (own_ll_lt_f hc20) (oiload X13 hx hby d6_40 rfl (oiload X13 hx hby d6_42 rfl (oisub X13 hx hby d6_44 (oistore X13 hx hby d6_45 (lc15 a1 q2 q2 1 1) rfl (oiload X13 hx hby d6_47 rfl (oiconst X13 hx hby d6_49 (oimul X13 hx hby d6_50 (oistore X13 hx hby d6_51 (lc15 a1 q2 q2 1 2) rfl (ogoto (pc := 53) X13 hx hby d6_53 16 (by decide) k)))))))))) ?_
  refine own_go (U' := T13.setTop (mkF m 21 (lc15 a1 q2 q2 1 2) [(.int ((1 : Int32) - (2 : Int32)))])) (fun t k => oiload X13 hx hby d6_16 rfl (oiload X13 hx hby d6_18 rfl (oisub X13 hx hby d6_20 k))) ?_
  rw [show ((1 : Int32) - (2 : Int32)) = (-1 : Int32) from by decide]
  refine own_go (U' := T13.setTop (mkF m 62 (lc15 a1 q2 q2 1 2) [(.int ((1 : Int32) - (2 : Int32))), (.int 0)])) (fun t k => oifY (pc := 21) X13 hx hby d6_21 56 (by decide) (by decide) (oiconst X13 hx hby d6_56 (oiload X13 hx hby d6_57 rfl (oiload X13 hx hby d6_59 rfl (oisub X13 hx hby d6_61 k))))) ?_
  rw [show ((1 : Int32) - (2 : Int32)) = (-1 : Int32) from by decide]
  refine own_go (U' := T13.setTop (mkF m 64 (lc15 a1 q2 q2 1 2) [(.int ((-1 : Int32) + (1 : Int32))), (.int 0)])) (fun t k => oiconst X13 hx hby d6_62 (oiadd X13 hx hby d6_63 k)) ?_
  rw [show ((-1 : Int32) + (1 : Int32)) = (0 : Int32) from by decide]
  obtain ⟨_, T21, L21, X21, hQ21, st21⟩ := ocallS X13 hx hZ zm4 hown (ww hw 48 rfl) (ww hw 49 rfl) (by decide) (ww hw 51 rfl) (ww hw 50 rfl) e13 (rm8_7 l Z a0 hw []  h0 n0 Z0 ) (st := [(.int 0), (.int 0)]) rfl 0 rfl (by decide) (pc := 64) (Ls := (lc15 a1 q2 q2 1 2)) hml rfl (lenOf pd_3 rfl) d6_64 hby
  obtain ⟨rfl, N21q, e21⟩ := hQ21
  have N22 := Fr.app N8 N21q
  refine own_go (U' := T21.setTop (mkF m 79 (lc18 a1 q2 q2 1 2 0 1) [(.int 1), (.int 1)])) (fun t k => st21 _ (oistore X21 hx hby d6_67 (lc17 a1 q2 q2 1 2 0) rfl (oiload X21 hx hby d6_69 rfl (oiload X21 hx hby d6_71 rfl (oisub X21 hx hby d6_73 (oistore X21 hx hby d6_74 (lc18 a1 q2 q2 1 2 0 1) rfl (oiload X21 hx hby d6_76 rfl (oiconst X21 hx hby d6_78 k)))))))) ?_
  refine own_go (U' := T21.setTop (mkF m 132 (lc18 a1 q2 q2 1 2 0 1) [(.int 1), (.int 0)])) (fun t k => oicY (pc := 79) X21 hx hby d6_79 128 (by decide) (by decide) (oiload X21 hx hby d6_128 rfl (oiload X21 hx hby d6_130 rfl k))) ?_
  obtain ⟨T23, X23, e23, st23⟩ := getF X21 hx hZ hown (host := "") (Or.inl (ww hw 23 rfl)) Via.refl e21 F12 (g := (mkF m 136 (lc18 a1 q2 q2 1 2 0 1) [(.ref a1)])) rfl rfl (hb hby d6_136)
  obtain ⟨cl24, Ar24, q24, S24, N24, H24, G24⟩ := id F17
  have hin25 : ¬ ((0 : Int32) < 0 ∨ cl24.slots.size ≤ ((0 : Int32)).toNatClampNeg) := inb_of S24 ⟨by decide, by decide⟩
  have hat25 : cl24.slots[((0 : Int32)).toNatClampNeg]? = some (.long q14) := Has.at H24 hin25 rfl
  refine own_go (U' := T23.setTop (mkF m 145 (lc18 a1 q2 q2 1 2 0 1) [(.int (lcmpW q14 q2))])) (fun t k => oicN X21 hx hby d6_132 (by decide) (oaloadN X21 hx hby d6_135 rfl rfl (st23 _ (oiload X23 hx hby d6_139 rfl (X23.laload hx (j := (0 : Int32)) (v := (.long q14)) (by rw [e23]; exact Ar24.1) (State.isArrayOf_alike hZ.alike Ar24.2.1) Ar24.2.2 hin25 hat25 (g := (mkF m 141 (lc18 a1 q2 q2 1 2 0 1) [(.int 0), (.ref a11)])) rfl rfl (hb hby d6_141) _ (olload X23 hx hby d6_142 rfl (olcmp X23 hx hby d6_144 k))))))) ?_
  refine own_go (U' := T23.setTop (mkF m 157 (lc18 a1 q2 q2 1 2 1 1) [(.int (lcmpW q2 (-9223372036854775808 : Int64)))])) (fun t k => oifN X23 hx hby d6_145 (own_ll_ge_f hc26) (oiinc X23 hx hby d6_148 (lc18 a1 q2 q2 1 2 1 1) rfl rfl (olload X23 hx hby d6_151 rfl (X23.ldc2Long hx hown (mvT hZ (ww hw 52 rfl)) (g := (mkF m 153 (lc18 a1 q2 q2 1 2 1 1) [(.long q2)])) rfl (hb hby d6_153) _ (olcmp X23 hx hby d6_156 k))))) ?_
  refine own_go (U' := T23.setTop (mkF m 166 (lc18 a1 q2 q2 1 2 1 1) [(.int (lcmpW q2 (9223372036854775807 : Int64)))])) (fun t k => oifN X23 hx hby d6_157 (own_ll_eq_f hc27) (olload X23 hx hby d6_160 rfl (X23.ldc2Long hx hown (mvT hZ (ww hw 53 rfl)) (g := (mkF m 162 (lc18 a1 q2 q2 1 2 1 1) [(.long q2)])) rfl (hb hby d6_162) _ (olcmp X23 hx hby d6_165 k)))) ?_
  refine own_go (U' := T23.setTop (mkF m 178 (lc18 a1 q2 q2 1 2 1 1) [(.int 1)])) (fun t k => oifN X23 hx hby d6_166 (own_ll_eq_f hc28) (oiconst X23 hx hby d6_169 (ogoto (pc := 170) X23 hx hby d6_170 174 (by decide) (oistore X23 hx hby d6_174 (lc18 a1 q2 q2 1 2 1 1) rfl (oiload X23 hx hby d6_176 rfl k))))) ?_
  obtain ⟨T29, X29, e29, st29⟩ := getF X23 hx hZ hown (host := "") (Or.inl (ww hw 32 rfl)) Via.refl e23 F9 (g := (mkF m 230 (lc18 a1 q2 q2 1 2 1 1) [(.ref a1), (.int 1)])) rfl rfl (hb hby d6_230)
  refine own_go (U' := T29.setTop (mkF m 233 (lc18 a1 q2 q2 1 2 1 1) [(.int 2), (.int 1)])) (fun t k => oifY (pc := 178) X23 hx hby d6_178 227 (by decide) (by decide) (oiload X23 hx hby d6_227 rfl (oaloadN X23 hx hby d6_229 rfl rfl (st29 _ k)))) ?_
  obtain ⟨T30, X30, e30, st30⟩ := getF X29 hx hZ hown (host := "") (Or.inl (ww hw 23 rfl)) Via.refl e29 F12 (g := (mkF m 237 (lc18 a1 q2 q2 1 2 1 1) [(.ref a1)])) rfl rfl (hb hby d6_237)
  obtain ⟨cl31, Ar31, q31, S31, N31, H31, G31⟩ := id F17
  have hin32 : ¬ ((1 : Int32) < 0 ∨ cl31.slots.size ≤ ((1 : Int32)).toNatClampNeg) := inb_of S31 ⟨by decide, by decide⟩
  have hat32 : cl31.slots[((1 : Int32)).toNatClampNeg]? = some (.long q15) := Has.at H31 hin32 rfl
  refine own_go (U' := T30.setTop (mkF m 246 (lc18 a1 q2 q2 1 2 1 1) [(.int (lcmpW q15 q2))])) (fun t k => oicN X29 hx hby d6_233 (by decide) (oaloadN X29 hx hby d6_236 rfl rfl (st30 _ (oiload X30 hx hby d6_240 rfl (X30.laload hx (j := (1 : Int32)) (v := (.long q15)) (by rw [e30]; exact Ar31.1) (State.isArrayOf_alike hZ.alike Ar31.2.1) Ar31.2.2 hin32 hat32 (g := (mkF m 242 (lc18 a1 q2 q2 1 2 1 1) [(.int 1), (.ref a11)])) rfl rfl (hb hby d6_242) _ (olload X30 hx hby d6_243 rfl (olcmp X30 hx hby d6_245 k))))))) ?_
  refine own_go (U' := T30.setTop (mkF m 280 (lc19 a1 q2 q2 1 2 1 1 0) [(.int 0)])) (fun t k => oifY (pc := 246) X30 hx hby d6_246 275 (own_ll_ne_t hc33) (by decide) (oiconst X30 hx hby d6_275 (oistore X30 hx hby d6_276 (lc19 a1 q2 q2 1 2 1 1 0) rfl (oiload X30 hx hby d6_278 rfl k)))) ?_
  refine own_go (U' := T30.setTop (mkF m 292 (lc19 a1 q2 q2 1 2 1 1 0) [(.int ((-1 : Int32) - (1 : Int32)))])) (fun t k => oifY (pc := 280) X30 hx hby d6_280 288 (by decide) (by decide) (oiconst X30 hx hby d6_288 (oiload X30 hx hby d6_289 rfl (oisub X30 hx hby d6_291 k)))) ?_
  rw [show ((-1 : Int32) - (1 : Int32)) = (-2 : Int32) from by decide]
  obtain ⟨fs, hr, hrun, hended, hW, hsame⟩ := X30.leave (v := some (.int (-2))) (fun h => by rw [Bd.returns] at h; cases h)
  refine own_out ⟨_, _, ?_, hrun, hended, _, _, rfl, ?_, ⟨_, rfl⟩, hW, hsame.mono (by decide) (by decide)⟩
  · exact retI X30 hx Bd.returns (hb hby d6_292) hr
  · show Q6_30 Z a1 q2 a4 a11 q14 q15 kc16 h0 n0 _ T30.heap _
    rw [e30]
    exact ⟨rfl, N22, rfl⟩
def Qmg6_31 (Z : State) (a1 : Addr) (q2 : Int64) (a3 : Addr) (a8 : Addr) (q10 : Int64) (q11 : Int64) (kc12 : ClassId) (h0 : Heap) (n0 : Nat) (v : Option Value) (h : Heap) (L : List Loc) : Prop := v = some (.int (-2)) ∧ Fr n0 L ∧ h = h0
theorem mg6_31 (l : Launch) (Z : State) (a0 : Array Value) (hw : ∀ d ∈ tables_1, d.before a0 Z = true) (ws : List Jvm.Cond) (a1 : Addr) (q2 : Int64) (a3 : Addr) (a8 : Addr) (q10 : Int64) (q11 : Int64) (kc12 : ClassId) (h0 : Heap) (n0 : Nat) (Z0 : n0 ≤ h0.size) (F4 : Fld Z h0 a1 zs2 "side" zs4 (.ref a3)) (F5 : Sta Z h0 zs6 "BUY" zs4 (.ref a3)) (F6 : Exa Z h0 a1 zs2) (F7 : Fld Z h0 a1 zs2 "count" "I" (.int 2)) (F9 : Fld Z h0 a1 zs2 "ranks" "[J" (.ref a8)) (F13 : Arv Z h0 a8 kc12 .long (16 : Int32) [(.long q10), (.long q11)] (.long (0 : Int64))) (hc14 : ¬ (q11 < q2)) (hc15 : q10 < q2) (hc16 : ¬ (q2 = (-9223372036854775808 : Int64))) (hc17 : ¬ (q2 = (9223372036854775807 : Int64))) (hc18 : ¬ (q11 = q2)) :
    MetFree l zm5 (head1 (Jvm.Cond.code zm5 prog_2_method_8_code 11 (some .int) :: ws) ({ frames := 1, cells := 0, slots := 0, locals := 14 } : Room)) (fun a U => a = #[(.ref a1), (.long q2), .null] ∧ Z.Warmed39 U.vm ∧ U.heap = h0) (fun _ _ _ _ _ => True) (fun _ U o U' => ∃ v L, o = .returned v ∧ Qmg6_31 Z a1 q2 a3 a8 q10 q11 kc12 h0 n0 v U'.heap L ∧ FrameEnd U o U' L ({ frames := 1, cells := 0, slots := 0, locals := 14 } : Room).cells ({ frames := 1, cells := 0, slots := 0, locals := 14 } : Room).slots) := by
  exact rm6_30 l Z a0 hw ws a1 q2 a3 a8 q10 q11 kc12 h0 n0 Z0 F4 F5 F6 F7 F9 F13 hc14 hc15 hc16 hc17 hc18
def Q5_32 (Z : State) (a1 : Addr) (q2 : Int64) (a4 : Addr) (a9 : Addr) (q11 : Int64) (q12 : Int64) (kc13 : ClassId) (a22 : Addr) (a25 : Addr) (a26 : Addr) (kc27 : ClassId) (h0 : Heap) (n0 : Nat) (v : Option Value) (h : Heap) (L : List Loc) : Prop := ∃ b51 : Addr, v = some (.ref b51) ∧ Fr n0 L ∧ Keep h0 h [a22, a9, a1] ∧ h0.size ≤ b51 ∧ Arv Z h a22 kc27 (.object zs1) (16 : Int32) [(.ref a25), (.ref b51), (.ref a26)] .null ∧ Arv Z h a9 kc13 .long (16 : Int32) [(.long q11), (.long q2), (.long q12)] (.long (0 : Int64)) ∧ Fld Z h a1 zs2 "side" zs4 (.ref a4) ∧ Fld Z h a1 zs2 "count" "I" (.int 3) ∧ Fld Z h a1 zs2 "ranks" "[J" (.ref a9) ∧ Fld Z h a1 zs2 "levels" zs3 (.ref a22) ∧ Fld Z h a1 zs2 "emptyLevels" "I" (.int 0) ∧ Exa Z h b51 zs1 ∧ Fld Z h b51 zs1 "price" zs10 .null ∧ Fld Z h b51 zs1 "priceSteps" "J" (.long q2) ∧ Fld Z h b51 zs1 "first" zs11 .null
set_option maxRecDepth 65536 in
set_option maxHeartbeats 40000000 in
theorem rm5_32 (l : Launch) (Z : State) (a0 : Array Value) (hw : ∀ d ∈ tables_1, d.before a0 Z = true) (ws : List Jvm.Cond) (a1 : Addr) (q2 : Int64) (a4 : Addr) (a9 : Addr) (q11 : Int64) (q12 : Int64) (kc13 : ClassId) (a22 : Addr) (a25 : Addr) (a26 : Addr) (kc27 : ClassId) (h0 : Heap) (n0 : Nat) (Z0 : n0 ≤ h0.size) (F5 : Fld Z h0 a1 zs2 "side" zs4 (.ref a4)) (F6 : Sta Z h0 zs6 "BUY" zs4 (.ref a4)) (F7 : Exa Z h0 a1 zs2) (F8 : Fld Z h0 a1 zs2 "count" "I" (.int 2)) (F10 : Fld Z h0 a1 zs2 "ranks" "[J" (.ref a9)) (F14 : Arv Z h0 a9 kc13 .long (16 : Int32) [(.long q11), (.long q12)] (.long (0 : Int64))) (hc15 : ¬ (q12 < q2)) (hc16 : q11 < q2) (hc17 : ¬ (q2 = (-9223372036854775808 : Int64))) (hc18 : ¬ (q2 = (9223372036854775807 : Int64))) (hc19 : ¬ (q12 = q2)) (F23 : Fld Z h0 a1 zs2 "levels" zs3 (.ref a22)) (F28 : Arv Z h0 a22 kc27 (.object zs1) (16 : Int32) [(.ref a25), (.ref a26)] .null) (g35 : n0 ≤ a22) (O36 : Ovr Z kc27 zs1) (F37 : Exa Z h0 a26 zs1) (ne39 : a1 ≠ a22) (ne46 : a9 ≠ a22) (g49 : n0 ≤ a9) (ne61 : a1 ≠ a9) (F87 : Fld Z h0 a1 zs2 "emptyLevels" "I" (.int 0)) (g90 : n0 ≤ a1) :
    MetFree l zm7 (head1 (Jvm.Cond.code zm7 prog_2_method_5_code 7 (some (.object zs1)) :: ws) ({ frames := 2, cells := 1, slots := 4, locals := 36 } : Room)) (fun a U => a = #[(.ref a1), (.long q2), .null] ∧ Z.Warmed39 U.vm ∧ U.heap = h0) (fun _ _ _ _ _ => True) (fun _ U o U' => ∃ v L, o = .returned v ∧ Q5_32 Z a1 q2 a4 a9 q11 q12 kc13 a22 a25 a26 kc27 h0 n0 v U'.heap L ∧ FrameEnd U o U' L ({ frames := 2, cells := 1, slots := 4, locals := 36 } : Room).cells ({ frames := 2, cells := 1, slots := 4, locals := 36 } : Room).slots) := by
  refine MetFree.of_bodySF (plainFor_of_name pn_com_example_srok_srok_engine_BookSide) hisR ?_
  intro p e s m args below meth c s₁ Bd hml0 hP hK
  obtain ⟨rfl, hZ, hh⟩ := hP
  have hx := Bd.exec
  have hby := Bd.bytes
  have hml : c.maxLocals = 7 := hml0
  have hown : s.vm.findClass zs2 = some m.cls := findClass_of_methodNamed Bd.named
  have hnm := (name_of_methodNamed Bd.named Bd.method).1
  have X0 : Stand p l e ({ frames := 2, cells := 1, slots := 4, locals := 36 } : Room) s m #[(.ref a1), (.long q2), .null] below meth c s₁ [] 0 0 := Stand.of_body Bd
  have e0 : s₁.heap = h0 := by rw [← hh, Bd.state]; rfl
  have N0 := Fr.nil n0
  refine own_pre (g' := mkF m 0 (lc10 a1 q2) []) (ef_7 m a1 q2) ?_
  obtain ⟨_, T3, L3, X3, hQ3, st3⟩ := ocallP X0 hx hZ zm5 hown (ww hw 39 rfl) (ww hw 40 rfl) (own_selP (mvT hZ (ww hw 10 rfl)) (mvP hZ (ww hw 41 rfl)) (mvT hZ (ww hw 40 rfl)) (by decide)) (ww hw 41 rfl) (by decide) (ww hw 42 rfl) (ww hw 11 rfl) e0 F7 (mg6_31 l Z a0 hw [] a1 q2 a4 a9 q11 q12 kc13 h0 n0 Z0 F5 F6 F7 F8 F10 F14 hc15 hc16 hc17 hc18 hc19) (st := [.null, (.long q2), (.ref a1)]) rfl 0 rfl (by decide) (pc := 3) (Ls := (lc10 a1 q2)) hml rfl (lenOf pd_4 rfl) d5_3 hby
  obtain ⟨rfl, N3q, e3⟩ := hQ3
  have N20 := Fr.app N0 N3q
  refine own_go (U' := T3.setTop (mkF m 10 (lc20 a1 q2 (-2)) [(.int (-2))])) (fun t k => oaloadN X0 hx hby d5_0 rfl rfl (olloadN X0 hx hby d5_1 rfl (oaloadN X0 hx hby d5_2 rfl rfl (st3 _ (oistore X3 hx hby d5_6 (lc20 a1 q2 (-2)) rfl (oiload X3 hx hby d5_8 rfl k)))))) ?_
  refine own_go (U' := T3.setTop (mkF m 47 (lc20 a1 q2 (-2)) [(.int (-(-2 : Int32)))])) (fun t k => oifY (pc := 10) X3 hx hby d5_10 44 (by decide) (by decide) (oiload X3 hx hby d5_44 rfl (oineg X3 hx hby d5_46 k))) ?_
  rw [show (-(-2 : Int32)) = (2 : Int32) from by decide]
  obtain ⟨T21, X21, e21, st21⟩ := getF X3 hx hZ hown (host := "") (Or.inl (ww hw 32 rfl)) Via.refl e3 F8 (g := (mkF m 52 (lc21 a1 q2 (-2) 1) [(.ref a1)])) rfl rfl (hb hby d5_52)
  obtain ⟨T24, X24, e24, st24⟩ := getF X21 hx hZ hown (host := "") (Or.inl (ww hw 20 rfl)) Via.refl e21 F23 (g := (mkF m 56 (lc21 a1 q2 (-2) 1) [(.ref a1), (.int 2)])) rfl rfl (hb hby d5_56)
  refine own_go (U' := T24.setTop (mkF m 59 (lc21 a1 q2 (-2) 1) [(.ref a22), (.int 2)])) (fun t k => oiconst X3 hx hby d5_47 (oisub X3 hx hby d5_48 (oistore X3 hx hby d5_49 (lc21 a1 q2 (-2) 1) rfl (oaloadN X3 hx hby d5_51 rfl rfl (st21 _ (oaloadN X21 hx hby d5_55 rfl rfl (st24 _ k))))))) ?_
  obtain ⟨cl29, Ar29, q29, S29, N29, H29, G29⟩ := id F28
  refine own_go (fun t k => X24.arraylength hx (by rw [e24]; exact Ar29.1) (State.isArrayOf_alike hZ.alike Ar29.2.1) (g := (mkF m 59 (lc21 a1 q2 (-2) 1) [(.ref a22), (.int 2)])) rfl rfl (hb hby d5_59) _ k) ?_
  rw [len_of S29 N29]
  obtain ⟨T30, X30, e30, st30⟩ := getF X24 hx hZ hown (host := "") (Or.inl (ww hw 20 rfl)) Via.refl e24 F23 (g := (mkF m 101 (lc21 a1 q2 (-2) 1) [(.ref a1)])) rfl rfl (hb hby d5_101)
  obtain ⟨T31, X31, e31, st31⟩ := getF X30 hx hZ hown (host := "") (Or.inl (ww hw 20 rfl)) Via.refl e30 F23 (g := (mkF m 107 (lc21 a1 q2 (-2) 1) [(.ref a1), (.int 1), (.ref a22)])) rfl rfl (hb hby d5_107)
  obtain ⟨T32, X32, e32, st32⟩ := getF X31 hx hZ hown (host := "") (Or.inl (ww hw 32 rfl)) Via.refl e31 F8 (g := (mkF m 115 (lc21 a1 q2 (-2) 1) [(.ref a1), (.int 2), (.ref a22), (.int 1), (.ref a22)])) rfl rfl (hb hby d5_115)
  have f34 : Arv Z h0 a22 kc27 (.object zs1) (16 : Int32) [(.ref a25), (.ref a26), .null] .null := F28.pad (pad_rep [(.ref a25), (.ref a26)] .null 1)
  obtain ⟨cl33, Ar33, q33, -⟩ := id f34
  obtain ⟨T33, h33, L33, X33, e33, N33, K33, V33, st33⟩ := cpA X32 hx hZ hown (ww hw 54 rfl) (ww hw 57 rfl) (ww hw 55 rfl) (ww hw 56 rfl) e32 (us := [(.ref a26)]) f34 f34 (Or.inr ⟨rfl, rfl, ⟨(Sto.ofV Ar33 q33 O36 (Ins.self F37)), trivial⟩⟩) (by decide) (by decide) (by decide) (by decide) (by decide) rfl (Nat.le_of_ble_eq_true rfl) N20 g35 (g := (mkF m 121 (lc21 a1 q2 (-2) 1) [(.int 1), (.int 2), (.ref a22), (.int 1), (.ref a22)])) rfl (by rw [hml]; rfl) rfl (hb hby d5_121) (by decide) (W := 0) (by show 2 * 0 + _ ≤ _; exact Nat.le_of_eq rfl) (by decide)
  have f38 : Arv Z h33 a22 kc27 (.object zs1) (16 : Int32) [(.ref a25), (.ref a26), (.ref a26)] .null := V33
  have f40 : Fld Z h33 a1 zs2 "ranks" "[J" (.ref a9) := (F10.keep K33 (ninS ne39 nin0))
  obtain ⟨T41, X41, e41, st41⟩ := getF X33 hx hZ hown (host := "") (Or.inl (ww hw 23 rfl)) Via.refl e33 f40 (g := (mkF m 125 (lc21 a1 q2 (-2) 1) [(.ref a1)])) rfl rfl (hb hby d5_125)
  obtain ⟨T42, X42, e42, st42⟩ := getF X41 hx hZ hown (host := "") (Or.inl (ww hw 23 rfl)) Via.refl e41 f40 (g := (mkF m 131 (lc21 a1 q2 (-2) 1) [(.ref a1), (.int 1), (.ref a9)])) rfl rfl (hb hby d5_131)
  have f43 : Fld Z h33 a1 zs2 "count" "I" (.int 2) := (F8.keep K33 (ninS ne39 nin0))
  obtain ⟨T44, X44, e44, st44⟩ := getF X42 hx hZ hown (host := "") (Or.inl (ww hw 32 rfl)) Via.refl e42 f43 (g := (mkF m 139 (lc21 a1 q2 (-2) 1) [(.ref a1), (.int 2), (.ref a9), (.int 1), (.ref a9)])) rfl rfl (hb hby d5_139)
  have f47 : Arv Z h33 a9 kc13 .long (16 : Int32) [(.long q11), (.long q12)] (.long (0 : Int64)) := (F14.keep K33 (ninS ne46 nin0))
  have f48 : Arv Z h33 a9 kc13 .long (16 : Int32) [(.long q11), (.long q12), (.long 0)] (.long (0 : Int64)) := f47.pad (pad_rep [(.long q11), (.long q12)] (.long (0 : Int64)) 1)
  obtain ⟨T45, h45, L45, X45, e45, N45, K45, V45, st45⟩ := cpA X44 hx hZ hown (ww hw 54 rfl) (ww hw 57 rfl) (ww hw 55 rfl) (ww hw 56 rfl) e44 (us := [(.long q12)]) f48 f48 (Or.inl ⟨rfl, rfl⟩) (by decide) (by decide) (by decide) (by decide) (by decide) rfl (Nat.le_of_ble_eq_true rfl) N33 g49 (g := (mkF m 145 (lc21 a1 q2 (-2) 1) [(.int 1), (.int 2), (.ref a9), (.int 1), (.ref a9)])) rfl (by rw [hml]; rfl) rfl (hb hby d5_145) (by decide) (W := 0) (by show 2 * 0 + _ ≤ _; exact Nat.le_of_eq rfl) (by decide)
  have f50 : Arv Z h45 a9 kc13 .long (16 : Int32) [(.long q11), (.long q12), (.long q12)] (.long (0 : Int64)) := V45
  obtain ⟨T51, h51, X51, e51, E51, A51, D51, -, st51⟩ := newO X45 hx hZ hown (ww hw 18 rfl) (ww hw 58 rfl) (ww hw 59 rfl) e45 (g := (mkF m 148 (lc21 a1 q2 (-2) 1) [])) rfl (hb hby d5_148) (by decide) (by decide)
  obtain ⟨b51, g51⟩ : ∃ z, z = h45.size := ⟨_, rfl⟩
  rw [← g51] at A51 D51 st51
  have f52 : Fld Z h51 b51 zs1 "price" zs10 .null := D51 (Or.inr (ww hw 65 rfl)) (ty := (.object zs13)) (by decide)
  have f53 : Fld Z h51 b51 zs1 "priceSteps" "J" (.long 0) := D51 (Or.inr (ww hw 67 rfl)) (ty := .long) (by decide)
  have f54 : Fld Z h51 b51 zs1 "first" zs11 .null := D51 (Or.inl (ww hw 78 rfl)) (ty := (.object zs14)) (by decide)
  have Z_1 : n0 ≤ h33.size := Nat.le_trans Z0 K33.1
  have Z_2 : n0 ≤ h45.size := Nat.le_trans Z_1 K45.1
  have g56 : n0 ≤ b51 := Nat.le_trans Z_2 (Nat.le_of_eq g51.symm)
  have Z_3 : n0 ≤ h51.size := Nat.le_trans Z_2 E51.1
  obtain ⟨_, T55, L55, X55, hQ55, st55⟩ := ocallI X51 hx hZ zm6 rfl hown (ww hw 60 rfl) (ww hw 61 rfl) (by decide) (ww hw 62 rfl) (ww hw 59 rfl) e51 (rm9_10 l Z a0 hw [] b51 q2 h51 n0 Z_3 f52 f53 f54 A51 g56) (st := [(.long q2), .null, (.ref b51), (.ref b51)]) rfl 1 rfl (by decide) (pc := 154) (Ls := (lc21 a1 q2 (-2) 1)) hml rfl (lenOf pd_5 rfl) d5_154 hby
  obtain ⟨rfl, N55q, K55, f57, f58, f59⟩ := hQ55
  have N60 := Fr.app N45 N55q
  have ne62 : a1 ≠ b51 := Nat.ne_of_lt (Nat.lt_of_lt_of_le (Nat.lt_of_lt_of_le (Nat.lt_of_lt_of_le (F5.lt) K33.1) K45.1) (Nat.le_of_eq g51.symm))
  have f63 : Fld Z T55.heap a1 zs2 "levels" zs3 (.ref a22) := ((Fld.ext E51 ((F23.keep K33 (ninS ne39 nin0)).keep K45 (ninS ne61 nin0))).keep K55 (ninS ne62 nin0))
  obtain ⟨T64, X64, e64, st64⟩ := getF X55 hx hZ hown (host := "") (Or.inl (ww hw 20 rfl)) Via.refl rfl f63 (g := (mkF m 160 (lc23 a1 q2 (-2) 1 b51) [(.ref a1)])) rfl rfl (hb hby d5_160)
  have ne65 : a22 ≠ b51 := Nat.ne_of_lt (Nat.lt_of_lt_of_le (Nat.lt_of_lt_of_le (f38.lt) K45.1) (Nat.le_of_eq g51.symm))
  have f66 : Arv Z T55.heap a22 kc27 (.object zs1) (16 : Int32) [(.ref a25), (.ref a26), (.ref a26)] .null := (((f38.keep K45 (ninS (Ne.symm ne46) nin0)).ext E51).keep K55 (ninS ne65 nin0))
  have f67 : Exa Z T55.heap b51 zs1 := (A51.keep K55)
  obtain ⟨cl68, Ar68, q68, S68, N68, H68, G68⟩ := id f66
  have hin69 : ¬ ((1 : Int32) < 0 ∨ cl68.slots.size ≤ ((1 : Int32)).toNatClampNeg) := inb_of S68 ⟨by decide, by decide⟩
  obtain ⟨T69, h69, X69, e69, W69, st69⟩ := stR X64 hx hZ e64 Ar68 (j := (1 : Int32)) hin69 rfl (Sto.ofV Ar68 q68 O36 (Ins.self f67)) (g := (mkF m 167 (lc23 a1 q2 (-2) 1 b51) [(.ref b51), (.int 1), (.ref a22)])) rfl rfl (hb hby d5_167)
  have N70 := Fr.snoc X69 N60 g35
  have f71 : Arv Z h69 a22 kc27 (.object zs1) (16 : Int32) [(.ref a25), (.ref b51), (.ref a26)] .null := Arv.set Ar68 q68 S68 N68 H68 G68 (by rfl) W69 1 rfl (Nat.le_of_ble_eq_true rfl)
  have f72 : Fld Z h69 a1 zs2 "ranks" "[J" (.ref a9) := (Fld.other W69 ((Fld.ext E51 (f40.keep K45 (ninS ne61 nin0))).keep K55 (ninS ne62 nin0)) (Or.inl ne39))
  obtain ⟨T73, X73, e73, st73⟩ := getF X69 hx hZ hown (host := "") (Or.inl (ww hw 23 rfl)) Via.refl e69 f72 (g := (mkF m 169 (lc23 a1 q2 (-2) 1 b51) [(.ref a1)])) rfl rfl (hb hby d5_169)
  have f75 : Fld Z h69 a1 zs2 "side" zs4 (.ref a4) := (Fld.other W69 ((Fld.ext E51 ((F5.keep K33 (ninS ne39 nin0)).keep K45 (ninS ne61 nin0))).keep K55 (ninS ne62 nin0)) (Or.inl ne39))
  have f76 : Sta Z h69 zs6 "BUY" zs4 (.ref a4) := (Sta.wr W69 (own_staK (Sta.ext E51 (own_staK (own_staK F6 K33 (allS (own_nsV f34) all0)) K45 (allS (own_nsV f48) all0))) K55 (allS (own_nsF f52) all0)))
  have Z_4 : n0 ≤ T55.heap.size := Nat.le_trans Z_3 K55.1
  have Z_5 : n0 ≤ h69.size := Nat.le_trans Z_4 (Keep.of_wr W69).1
  have f77 : Exa Z h69 a1 zs2 := (Exa.wr W69 ((Exa.ext E51 ((F7.keep K33).keep K45)).keep K55))
  obtain ⟨_, T74, L74, X74, hQ74, st74⟩ := ocallP X73 hx hZ zm3 hown (ww hw 43 rfl) (ww hw 44 rfl) (own_selP (mvT hZ (ww hw 10 rfl)) (mvP hZ (ww hw 45 rfl)) (mvT hZ (ww hw 44 rfl)) (by decide)) (ww hw 45 rfl) (by decide) (ww hw 46 rfl) (ww hw 11 rfl) e73 f77 (rm7_6 l Z a0 hw [] a1 q2 a4 h69 n0 Z_5 f75 f76) (st := [(.long q2), (.ref a1), (.int 1), (.ref a9)]) rfl 2 rfl (by decide) (pc := 176) (Ls := (lc23 a1 q2 (-2) 1 b51)) hml rfl (lenOf pd_0 rfl) d5_176 hby
  obtain ⟨rfl, N74q, e74⟩ := hQ74
  have N78 := Fr.app N70 N74q
  have ne79 : a9 ≠ b51 := Nat.ne_of_lt (Nat.lt_of_lt_of_le (f50.lt) (Nat.le_of_eq g51.symm))
  have f80 : Arv Z h69 a9 kc13 .long (16 : Int32) [(.long q11), (.long q12), (.long q12)] (.long (0 : Int64)) := (((f50.ext E51).keep K55 (ninS ne79 nin0)).other W69 ne46)
  obtain ⟨cl81, Ar81, q81, S81, N81, H81, G81⟩ := id f80
  have hin82 : ¬ ((1 : Int32) < 0 ∨ cl81.slots.size ≤ ((1 : Int32)).toNatClampNeg) := inb_of S81 ⟨by decide, by decide⟩
  obtain ⟨T82, h82, X82, e82, W82, st82⟩ := stJ X74 hx hZ e74 Ar81 (j := (1 : Int32)) hin82 (g := (mkF m 179 (lc23 a1 q2 (-2) 1 b51) [(.long q2), (.int 1), (.ref a9)])) rfl rfl (hb hby d5_179)
  have N83 := Fr.snoc X82 N78 g49
  have f84 : Arv Z h82 a9 kc13 .long (16 : Int32) [(.long q11), (.long q2), (.long q12)] (.long (0 : Int64)) := Arv.set Ar81 q81 S81 N81 H81 G81 (by rfl) W82 1 rfl (Nat.le_of_ble_eq_true rfl)
  have f85 : Fld Z h82 a1 zs2 "count" "I" (.int 2) := (Fld.other W82 (Fld.other W69 ((Fld.ext E51 (f43.keep K45 (ninS ne61 nin0))).keep K55 (ninS ne62 nin0)) (Or.inl ne39)) (Or.inl ne61))
  obtain ⟨T86, X86, e86, st86⟩ := getF X82 hx hZ hown (host := "") (Or.inl (ww hw 32 rfl)) Via.refl e82 f85 (g := (mkF m 182 (lc23 a1 q2 (-2) 1 b51) [(.ref a1), (.ref a1)])) rfl rfl (hb hby d5_182)
  have f88 : Exa Z h82 a1 zs2 := (Exa.wr W82 f77)
  obtain ⟨T89, h89, X89, e89, W89, st89⟩ := putF X86 hx hZ hown (host := "") (Or.inl (ww hw 32 rfl)) Via.refl e86 f85 f88 (Or.inl (ww hw 33 rfl)) (ww hw 10 rfl) (ty := .int) (by decide) rfl rfl (g := (mkF m 187 (lc23 a1 q2 (-2) 1 b51) [(.int 3), (.ref a1)])) rfl rfl (hb hby d5_187)
  have N91 := Fr.snoc X89 N83 g90
  have f92 : Fld Z h89 a1 zs2 "count" "I" (.int 3) := Fld.same W89 f85
  refine own_go (U' := T89.setTop (mkF m 192 (lc23 a1 q2 (-2) 1 b51) [(.ref b51)])) (fun t k => oicY (pc := 60) X24 hx hby d5_60 100 (by decide) (by decide) (oaloadN X24 hx hby d5_100 rfl rfl (st30 _ (oiload X30 hx hby d5_104 rfl (oaloadN X30 hx hby d5_106 rfl rfl (st31 _ (oiload X31 hx hby d5_110 rfl (oiconst X31 hx hby d5_112 (oiadd X31 hx hby d5_113 (oaloadN X31 hx hby d5_114 rfl rfl (st32 _ (oiload X32 hx hby d5_118 rfl (oisub X32 hx hby d5_120 (st33 _ (oaloadN X33 hx hby d5_124 rfl rfl (st41 _ (oiload X41 hx hby d5_128 rfl (oaloadN X41 hx hby d5_130 rfl rfl (st42 _ (oiload X42 hx hby d5_134 rfl (oiconst X42 hx hby d5_136 (oiadd X42 hx hby d5_137 (oaloadN X42 hx hby d5_138 rfl rfl (st44 _ (oiload X44 hx hby d5_142 rfl (oisub X44 hx hby d5_144 (st45 _ (st51 _ (odup X51 hx hby d5_151 rfl (oaloadN X51 hx hby d5_152 rfl rfl (olloadN X51 hx hby d5_153 rfl (st55 _ (oastore X55 hx hby d5_157 (lc23 a1 q2 (-2) 1 b51) rfl rfl (oaloadN X55 hx hby d5_159 rfl rfl (st64 _ (oiload X64 hx hby d5_163 rfl (oaload X64 hx hby d5_165 rfl rfl (st69 _ (oaloadN X69 hx hby d5_168 rfl rfl (st73 _ (oiload X73 hx hby d5_172 rfl (oaloadN X73 hx hby d5_174 rfl rfl (olloadN X73 hx hby d5_175 rfl (st74 _ (st82 _ (oaloadN X82 hx hby d5_180 rfl rfl (odup X82 hx hby d5_181 rfl (st86 _ (oiconst X86 hx hby d5_185 (oiadd X86 hx hby d5_186 (st89 _ (oaload X89 hx hby d5_190 rfl rfl k)))))))))))))))))))))))))))))))))))))))))))))))))))) ?_
  have f93 : Arv Z h89 a22 kc27 (.object zs1) (16 : Int32) [(.ref a25), (.ref b51), (.ref a26)] .null := ((f71.other W82 (Ne.symm ne46)).other W89 (Ne.symm ne39))
  have f94 : Arv Z h89 a9 kc13 .long (16 : Int32) [(.long q11), (.long q2), (.long q12)] (.long (0 : Int64)) := (f84.other W89 (Ne.symm ne61))
  have f95 : Fld Z h89 a1 zs2 "side" zs4 (.ref a4) := (Fld.other W89 (Fld.other W82 f75 (Or.inl ne61)) (Or.inr (slot_ne (Or.inr (ww hw 26 rfl)) (Or.inl (ww hw 33 rfl)) (by decide) (t := (.object zs6)) (t' := .int) (by decide) (by decide))))
  have f96 : Fld Z h89 a1 zs2 "ranks" "[J" (.ref a9) := (Fld.other W89 (Fld.other W82 f72 (Or.inl ne61)) (Or.inr (slot_ne (Or.inl (ww hw 24 rfl)) (Or.inl (ww hw 33 rfl)) (by decide) (t := (.array .long)) (t' := .int) (by decide) (by decide))))
  have f97 : Fld Z h89 a1 zs2 "levels" zs3 (.ref a22) := (Fld.other W89 (Fld.other W82 (Fld.other W69 f63 (Or.inl ne39)) (Or.inl ne61)) (Or.inr (slot_ne (Or.inl (ww hw 21 rfl)) (Or.inl (ww hw 33 rfl)) (by decide) (t := (.array (.object zs1))) (t' := .int) (by decide) (by decide))))
  have f98 : Fld Z h89 a1 zs2 "emptyLevels" "I" (.int 0) := (Fld.other W89 (Fld.other W82 (Fld.other W69 ((Fld.ext E51 ((F87.keep K33 (ninS ne39 nin0)).keep K45 (ninS ne61 nin0))).keep K55 (ninS ne62 nin0)) (Or.inl ne39)) (Or.inl ne61)) (Or.inr (slot_ne (Or.inl (ww hw 80 rfl)) (Or.inl (ww hw 33 rfl)) (by decide) (t := .int) (t' := .int) (by decide) (by decide))))
  have f99 : Exa Z h89 b51 zs1 := (Exa.wr W89 (Exa.wr W82 (Exa.wr W69 f67)))
  have f100 : Fld Z h89 b51 zs1 "price" zs10 .null := (Fld.other W89 (Fld.other W82 (Fld.other W69 f57 (Or.inl (Ne.symm ne65))) (Or.inl (Ne.symm ne79))) (Or.inl (Ne.symm ne62)))
  have f101 : Fld Z h89 b51 zs1 "priceSteps" "J" (.long q2) := (Fld.other W89 (Fld.other W82 (Fld.other W69 f58 (Or.inl (Ne.symm ne65))) (Or.inl (Ne.symm ne79))) (Or.inl (Ne.symm ne62)))
  have f102 : Fld Z h89 b51 zs1 "first" zs11 .null := (Fld.other W89 (Fld.other W82 (Fld.other W69 f59 (Or.inl (Ne.symm ne65))) (Or.inl (Ne.symm ne79))) (Or.inl (Ne.symm ne62)))
  obtain ⟨fs, hr, hrun, hended, hW, hsame⟩ := X89.leave (v := some (.ref b51)) (fun h => by rw [Bd.returns] at h; cases h)
  refine own_out ⟨_, _, ?_, hrun, hended, _, _, rfl, ?_, ⟨_, rfl⟩, hW, hsame.mono (by decide) (by decide)⟩
  · exact retOut X89 hx Bd.returns rfl (Or.inr (Or.inr (Or.inr (Or.inr ⟨rfl, rfl, rfl⟩)))) (hb hby d5_192) hr
  · show Q5_32 Z a1 q2 a4 a9 q11 q12 kc13 a22 a25 a26 kc27 h0 n0 _ T89.heap _
    rw [e89]
    exact ⟨b51, rfl, N91, ((((Keep.trans ((Keep.trans (Keep.trans (Keep.refl h0 [a22, a9, a1]) K33 (allS (Or.inl (List.mem_of_getElem? (i := 0) rfl)) all0)) K45 (allS (Or.inl (List.mem_of_getElem? (i := 1) rfl)) all0)).ext E51) K55 (allS (Or.inr (Nat.le_trans K33.1 (Nat.le_trans K45.1 (Nat.le_of_eq g51.symm)))) all0)).wr W69 (Or.inl (List.mem_of_getElem? (i := 0) rfl))).wr W82 (Or.inl (List.mem_of_getElem? (i := 1) rfl))).wr W89 (Or.inl (List.mem_of_getElem? (i := 2) rfl))), (Nat.le_trans K33.1 (Nat.le_trans K45.1 (Nat.le_of_eq g51.symm))), f93, f94, f95, f92, f96, f97, f98, f99, f100, f101, f102⟩
def Q6_33 (Z : State) (a1 : Addr) (q2 : Int64) (a4 : Addr) (a11 : Addr) (q14 : Int64) (q15 : Int64) (kc16 : ClassId) (h0 : Heap) (n0 : Nat) (v : Option Value) (h : Heap) (L : List Loc) : Prop := v = some (.int 0) ∧ Fr n0 L ∧ h = h0
set_option maxRecDepth 65536 in
set_option maxHeartbeats 40000000 in
theorem rm6_33 (l : Launch) (Z : State) (a0 : Array Value) (hw : ∀ d ∈ tables_1, d.before a0 Z = true) (ws : List Jvm.Cond) (a1 : Addr) (q2 : Int64) (a4 : Addr) (a11 : Addr) (q14 : Int64) (q15 : Int64) (kc16 : ClassId) (h0 : Heap) (n0 : Nat) (Z0 : n0 ≤ h0.size) (F5 : Fld Z h0 a1 zs2 "side" zs4 (.ref a4)) (F6 : Sta Z h0 zs6 "BUY" zs4 (.ref a4)) (F7 : Exa Z h0 a1 zs2) (F9 : Fld Z h0 a1 zs2 "count" "I" (.int 2)) (F12 : Fld Z h0 a1 zs2 "ranks" "[J" (.ref a11)) (F17 : Arv Z h0 a11 kc16 .long (16 : Int32) [(.long q14), (.long q15)] (.long (0 : Int64))) (hc20 : ¬ (q15 < q2)) (hc26 : ¬ (q14 < q2)) (hc27 : ¬ (q2 = (-9223372036854775808 : Int64))) (hc28 : ¬ (q2 = (9223372036854775807 : Int64))) (hc33 : q14 = q2) :
    MetFree l zm5 (head1 (Jvm.Cond.code zm5 prog_2_method_8_code 11 (some .int) :: ws) ({ frames := 1, cells := 0, slots := 0, locals := 14 } : Room)) (fun a U => a = #[(.ref a1), (.long q2), .null] ∧ Z.Warmed39 U.vm ∧ U.heap = h0) (fun _ _ _ _ _ => True) (fun _ U o U' => ∃ v L, o = .returned v ∧ Q6_33 Z a1 q2 a4 a11 q14 q15 kc16 h0 n0 v U'.heap L ∧ FrameEnd U o U' L ({ frames := 1, cells := 0, slots := 0, locals := 14 } : Room).cells ({ frames := 1, cells := 0, slots := 0, locals := 14 } : Room).slots) := by
  refine MetFree.of_bodySF (plainFor_of_name pn_com_example_srok_srok_engine_BookSide) hisR ?_
  intro p e s m args below meth c s₁ Bd hml0 hP hK
  obtain ⟨rfl, hZ, hh⟩ := hP
  have hx := Bd.exec
  have hby := Bd.bytes
  have hml : c.maxLocals = 11 := hml0
  have hown : s.vm.findClass zs2 = some m.cls := findClass_of_methodNamed Bd.named
  have hnm := (name_of_methodNamed Bd.named Bd.method).1
  have X0 : Stand p l e ({ frames := 1, cells := 0, slots := 0, locals := 14 } : Room) s m #[(.ref a1), (.long q2), .null] below meth c s₁ [] 0 0 := Stand.of_body Bd
  have e0 : s₁.heap = h0 := by rw [← hh, Bd.state]; rfl
  have N0 := Fr.nil n0
  refine own_pre (g' := mkF m 0 (lc11 a1 q2) []) (ef_5 m a1 q2) ?_
  obtain ⟨_, T3, L3, X3, hQ3, st3⟩ := ocallP X0 hx hZ zm3 hown (ww hw 43 rfl) (ww hw 44 rfl) (own_selP (mvT hZ (ww hw 10 rfl)) (mvP hZ (ww hw 45 rfl)) (mvT hZ (ww hw 44 rfl)) (by decide)) (ww hw 45 rfl) (by decide) (ww hw 46 rfl) (ww hw 11 rfl) e0 F7 (rm7_6 l Z a0 hw [] a1 q2 a4 h0 n0 Z0 F5 F6) (st := [(.long q2), (.ref a1)]) rfl 0 rfl (by decide) (pc := 2) (Ls := (lc11 a1 q2)) hml rfl (lenOf pd_0 rfl) d6_2 hby
  obtain ⟨rfl, N3q, e3⟩ := hQ3
  have N8 := Fr.app N0 N3q
  obtain ⟨T10, X10, e10, st10⟩ := getF X3 hx hZ hown (host := "") (Or.inl (ww hw 32 rfl)) Via.refl e3 F9 (g := (mkF m 8 (lc13 a1 q2 q2) [(.ref a1)])) rfl rfl (hb hby d6_8)
  refine own_go (U' := T10.setTop (mkF m 21 (lc15 a1 q2 q2 2 1) [(.int 1)])) (fun t k => oaloadN X0 hx hby d6_0 rfl rfl (olloadN X0 hx hby d6_1 rfl (st3 _ (olstore X3 hx hby d6_5 (lc13 a1 q2 q2) rfl (oaloadN X3 hx hby d6_7 rfl rfl (st10 _ (oistore X10 hx hby d6_11 (lc14 a1 q2 q2 2) rfl (oiconst X10 hx hby d6_13 (oistore X10 hx hby d6_14 (lc15 a1 q2 q2 2 1) rfl (oiload X10 hx hby d6_16 rfl (oiload X10 hx hby d6_18 rfl (oisub X10 hx hby d6_20 k)))))))))))) ?_
  obtain ⟨T13, X13, e13, st13⟩ := getF X10 hx hZ hown (host := "") (Or.inl (ww hw 23 rfl)) Via.refl e10 F12 (g := (mkF m 25 (lc15 a1 q2 q2 2 1) [(.ref a1)])) rfl rfl (hb hby d6_25)
  obtain ⟨cl18, Ar18, q18, S18, N18, H18, G18⟩ := id F17
  have hin19 : ¬ ((1 : Int32) < 0 ∨ cl18.slots.size ≤ ((1 : Int32)).toNatClampNeg) := inb_of S18 ⟨by decide, by decide⟩
  have hat19 : cl18.slots[((1 : Int32)).toNatClampNeg]? = some (.long q15) := Has.at H18 hin19 rfl
  refine own_go (U' := T13.setTop (mkF m 37 (lc15 a1 q2 q2 2 1) [(.int (lcmpW q15 q2))])) (fun t k => oifN X10 hx hby d6_21 (by decide) (oaloadN X10 hx hby d6_24 rfl rfl (st13 _ (oiload X13 hx hby d6_28 rfl (oiload X13 hx hby d6_30 rfl (oisub X13 hx hby d6_32 (X13.laload hx (j := (1 : Int32)) (v := (.long q15)) (by rw [e13]; exact Ar18.1) (State.isArrayOf_alike hZ.alike Ar18.2.1) Ar18.2.2 hin19 hat19 (g := (mkF m 33 (lc15 a1 q2 q2 2 1) [(.int 1), (.ref a11)])) rfl rfl (hb hby d6_33) _ (olload X13 hx hby d6_34 rfl (olcmp X13 hx hby d6_36 k))))))))) ?_
  refine own_go (U' := T13.setTop (mkF m 16 (lc15 a1 q2 q2 1 2) [])) (fun t k => oifN X13 hx hby d6_37 (own_ll_lt_f hc20) (oiload X13 hx hby d6_40 rfl (oiload X13 hx hby d6_42 rfl (oisub X13 hx hby d6_44 (oistore X13 hx hby d6_45 (lc15 a1 q2 q2 1 1) rfl (oiload X13 hx hby d6_47 rfl (oiconst X13 hx hby d6_49 (oimul X13 hx hby d6_50 (oistore X13 hx hby d6_51 (lc15 a1 q2 q2 1 2) rfl (ogoto (pc := 53) X13 hx hby d6_53 16 (by decide) k)))))))))) ?_
  refine own_go (U' := T13.setTop (mkF m 21 (lc15 a1 q2 q2 1 2) [(.int ((1 : Int32) - (2 : Int32)))])) (fun t k => oiload X13 hx hby d6_16 rfl (oiload X13 hx hby d6_18 rfl (oisub X13 hx hby d6_20 k))) ?_
  rw [show ((1 : Int32) - (2 : Int32)) = (-1 : Int32) from by decide]
  refine own_go (U' := T13.setTop (mkF m 62 (lc15 a1 q2 q2 1 2) [(.int ((1 : Int32) - (2 : Int32))), (.int 0)])) (fun t k => oifY (pc := 21) X13 hx hby d6_21 56 (by decide) (by decide) (oiconst X13 hx hby d6_56 (oiload X13 hx hby d6_57 rfl (oiload X13 hx hby d6_59 rfl (oisub X13 hx hby d6_61 k))))) ?_
  rw [show ((1 : Int32) - (2 : Int32)) = (-1 : Int32) from by decide]
  refine own_go (U' := T13.setTop (mkF m 64 (lc15 a1 q2 q2 1 2) [(.int ((-1 : Int32) + (1 : Int32))), (.int 0)])) (fun t k => oiconst X13 hx hby d6_62 (oiadd X13 hx hby d6_63 k)) ?_
  rw [show ((-1 : Int32) + (1 : Int32)) = (0 : Int32) from by decide]
  obtain ⟨_, T21, L21, X21, hQ21, st21⟩ := ocallS X13 hx hZ zm4 hown (ww hw 48 rfl) (ww hw 49 rfl) (by decide) (ww hw 51 rfl) (ww hw 50 rfl) e13 (rm8_7 l Z a0 hw []  h0 n0 Z0 ) (st := [(.int 0), (.int 0)]) rfl 0 rfl (by decide) (pc := 64) (Ls := (lc15 a1 q2 q2 1 2)) hml rfl (lenOf pd_3 rfl) d6_64 hby
  obtain ⟨rfl, N21q, e21⟩ := hQ21
  have N22 := Fr.app N8 N21q
  refine own_go (U' := T21.setTop (mkF m 79 (lc18 a1 q2 q2 1 2 0 1) [(.int 1), (.int 1)])) (fun t k => st21 _ (oistore X21 hx hby d6_67 (lc17 a1 q2 q2 1 2 0) rfl (oiload X21 hx hby d6_69 rfl (oiload X21 hx hby d6_71 rfl (oisub X21 hx hby d6_73 (oistore X21 hx hby d6_74 (lc18 a1 q2 q2 1 2 0 1) rfl (oiload X21 hx hby d6_76 rfl (oiconst X21 hx hby d6_78 k)))))))) ?_
  refine own_go (U' := T21.setTop (mkF m 132 (lc18 a1 q2 q2 1 2 0 1) [(.int 1), (.int 0)])) (fun t k => oicY (pc := 79) X21 hx hby d6_79 128 (by decide) (by decide) (oiload X21 hx hby d6_128 rfl (oiload X21 hx hby d6_130 rfl k))) ?_
  obtain ⟨T23, X23, e23, st23⟩ := getF X21 hx hZ hown (host := "") (Or.inl (ww hw 23 rfl)) Via.refl e21 F12 (g := (mkF m 136 (lc18 a1 q2 q2 1 2 0 1) [(.ref a1)])) rfl rfl (hb hby d6_136)
  obtain ⟨cl24, Ar24, q24, S24, N24, H24, G24⟩ := id F17
  have hin25 : ¬ ((0 : Int32) < 0 ∨ cl24.slots.size ≤ ((0 : Int32)).toNatClampNeg) := inb_of S24 ⟨by decide, by decide⟩
  have hat25 : cl24.slots[((0 : Int32)).toNatClampNeg]? = some (.long q14) := Has.at H24 hin25 rfl
  refine own_go (U' := T23.setTop (mkF m 145 (lc18 a1 q2 q2 1 2 0 1) [(.int (lcmpW q14 q2))])) (fun t k => oicN X21 hx hby d6_132 (by decide) (oaloadN X21 hx hby d6_135 rfl rfl (st23 _ (oiload X23 hx hby d6_139 rfl (X23.laload hx (j := (0 : Int32)) (v := (.long q14)) (by rw [e23]; exact Ar24.1) (State.isArrayOf_alike hZ.alike Ar24.2.1) Ar24.2.2 hin25 hat25 (g := (mkF m 141 (lc18 a1 q2 q2 1 2 0 1) [(.int 0), (.ref a11)])) rfl rfl (hb hby d6_141) _ (olload X23 hx hby d6_142 rfl (olcmp X23 hx hby d6_144 k))))))) ?_
  refine own_go (U' := T23.setTop (mkF m 157 (lc18 a1 q2 q2 1 2 0 1) [(.int (lcmpW q2 (-9223372036854775808 : Int64)))])) (fun t k => oifY (pc := 145) X23 hx hby d6_145 151 (own_ll_ge_t hc26) (by decide) (olload X23 hx hby d6_151 rfl (X23.ldc2Long hx hown (mvT hZ (ww hw 52 rfl)) (g := (mkF m 153 (lc18 a1 q2 q2 1 2 0 1) [(.long q2)])) rfl (hb hby d6_153) _ (olcmp X23 hx hby d6_156 k)))) ?_
  refine own_go (U' := T23.setTop (mkF m 166 (lc18 a1 q2 q2 1 2 0 1) [(.int (lcmpW q2 (9223372036854775807 : Int64)))])) (fun t k => oifN X23 hx hby d6_157 (own_ll_eq_f hc27) (olload X23 hx hby d6_160 rfl (X23.ldc2Long hx hown (mvT hZ (ww hw 53 rfl)) (g := (mkF m 162 (lc18 a1 q2 q2 1 2 0 1) [(.long q2)])) rfl (hb hby d6_162) _ (olcmp X23 hx hby d6_165 k)))) ?_
  refine own_go (U' := T23.setTop (mkF m 178 (lc18 a1 q2 q2 1 2 0 1) [(.int 1)])) (fun t k => oifN X23 hx hby d6_166 (own_ll_eq_f hc28) (oiconst X23 hx hby d6_169 (ogoto (pc := 170) X23 hx hby d6_170 174 (by decide) (oistore X23 hx hby d6_174 (lc18 a1 q2 q2 1 2 0 1) rfl (oiload X23 hx hby d6_176 rfl k))))) ?_
  obtain ⟨T29, X29, e29, st29⟩ := getF X23 hx hZ hown (host := "") (Or.inl (ww hw 32 rfl)) Via.refl e23 F9 (g := (mkF m 230 (lc18 a1 q2 q2 1 2 0 1) [(.ref a1), (.int 0)])) rfl rfl (hb hby d6_230)
  refine own_go (U' := T29.setTop (mkF m 233 (lc18 a1 q2 q2 1 2 0 1) [(.int 2), (.int 0)])) (fun t k => oifY (pc := 178) X23 hx hby d6_178 227 (by decide) (by decide) (oiload X23 hx hby d6_227 rfl (oaloadN X23 hx hby d6_229 rfl rfl (st29 _ k)))) ?_
  obtain ⟨T30, X30, e30, st30⟩ := getF X29 hx hZ hown (host := "") (Or.inl (ww hw 23 rfl)) Via.refl e29 F12 (g := (mkF m 237 (lc18 a1 q2 q2 1 2 0 1) [(.ref a1)])) rfl rfl (hb hby d6_237)
  obtain ⟨cl31, Ar31, q31, S31, N31, H31, G31⟩ := id F17
  have hin32 : ¬ ((0 : Int32) < 0 ∨ cl31.slots.size ≤ ((0 : Int32)).toNatClampNeg) := inb_of S31 ⟨by decide, by decide⟩
  have hat32 : cl31.slots[((0 : Int32)).toNatClampNeg]? = some (.long q14) := Has.at H31 hin32 rfl
  refine own_go (U' := T30.setTop (mkF m 246 (lc18 a1 q2 q2 1 2 0 1) [(.int (lcmpW q14 q2))])) (fun t k => oicN X29 hx hby d6_233 (by decide) (oaloadN X29 hx hby d6_236 rfl rfl (st30 _ (oiload X30 hx hby d6_240 rfl (X30.laload hx (j := (0 : Int32)) (v := (.long q14)) (by rw [e30]; exact Ar31.1) (State.isArrayOf_alike hZ.alike Ar31.2.1) Ar31.2.2 hin32 hat32 (g := (mkF m 242 (lc18 a1 q2 q2 1 2 0 1) [(.int 0), (.ref a11)])) rfl rfl (hb hby d6_242) _ (olload X30 hx hby d6_243 rfl (olcmp X30 hx hby d6_245 k))))))) ?_
  refine own_go (U' := T30.setTop (mkF m 251 (lc18 a1 q2 q2 1 2 0 1) [(.int 1)])) (fun t k => oifN X30 hx hby d6_246 (own_ll_ne_f hc33) (oiload X30 hx hby d6_249 rfl k)) ?_
  refine own_go (U' := T30.setTop (mkF m 280 (lc19 a1 q2 q2 1 2 0 1 1) [(.int 1)])) (fun t k => oifY (pc := 251) X30 hx hby d6_251 271 (by decide) (by decide) (oiconst X30 hx hby d6_271 (ogoto (pc := 272) X30 hx hby d6_272 276 (by decide) (oistore X30 hx hby d6_276 (lc19 a1 q2 q2 1 2 0 1 1) rfl (oiload X30 hx hby d6_278 rfl k))))) ?_
  refine own_go (U' := T30.setTop (mkF m 292 (lc19 a1 q2 q2 1 2 0 1 1) [(.int 0)])) (fun t k => oifN X30 hx hby d6_280 (by decide) (oiload X30 hx hby d6_283 rfl (ogoto (pc := 285) X30 hx hby d6_285 292 (by decide) k))) ?_
  obtain ⟨fs, hr, hrun, hended, hW, hsame⟩ := X30.leave (v := some (.int 0)) (fun h => by rw [Bd.returns] at h; cases h)
  refine own_out ⟨_, _, ?_, hrun, hended, _, _, rfl, ?_, ⟨_, rfl⟩, hW, hsame.mono (by decide) (by decide)⟩
  · exact retI X30 hx Bd.returns (hb hby d6_292) hr
  · show Q6_33 Z a1 q2 a4 a11 q14 q15 kc16 h0 n0 _ T30.heap _
    rw [e30]
    exact ⟨rfl, N22, rfl⟩
def Qmg6_34 (Z : State) (a1 : Addr) (q2 : Int64) (a3 : Addr) (a8 : Addr) (q10 : Int64) (q11 : Int64) (kc12 : ClassId) (h0 : Heap) (n0 : Nat) (v : Option Value) (h : Heap) (L : List Loc) : Prop := v = some (.int 0) ∧ Fr n0 L ∧ h = h0
theorem mg6_34 (l : Launch) (Z : State) (a0 : Array Value) (hw : ∀ d ∈ tables_1, d.before a0 Z = true) (ws : List Jvm.Cond) (a1 : Addr) (q2 : Int64) (a3 : Addr) (a8 : Addr) (q10 : Int64) (q11 : Int64) (kc12 : ClassId) (h0 : Heap) (n0 : Nat) (Z0 : n0 ≤ h0.size) (F4 : Fld Z h0 a1 zs2 "side" zs4 (.ref a3)) (F5 : Sta Z h0 zs6 "BUY" zs4 (.ref a3)) (F6 : Exa Z h0 a1 zs2) (F7 : Fld Z h0 a1 zs2 "count" "I" (.int 2)) (F9 : Fld Z h0 a1 zs2 "ranks" "[J" (.ref a8)) (F13 : Arv Z h0 a8 kc12 .long (16 : Int32) [(.long q10), (.long q11)] (.long (0 : Int64))) (hc14 : ¬ (q11 < q2)) (hc15 : ¬ (q10 < q2)) (hc16 : ¬ (q2 = (-9223372036854775808 : Int64))) (hc17 : ¬ (q2 = (9223372036854775807 : Int64))) (hc18 : q10 = q2) :
    MetFree l zm5 (head1 (Jvm.Cond.code zm5 prog_2_method_8_code 11 (some .int) :: ws) ({ frames := 1, cells := 0, slots := 0, locals := 14 } : Room)) (fun a U => a = #[(.ref a1), (.long q2), .null] ∧ Z.Warmed39 U.vm ∧ U.heap = h0) (fun _ _ _ _ _ => True) (fun _ U o U' => ∃ v L, o = .returned v ∧ Qmg6_34 Z a1 q2 a3 a8 q10 q11 kc12 h0 n0 v U'.heap L ∧ FrameEnd U o U' L ({ frames := 1, cells := 0, slots := 0, locals := 14 } : Room).cells ({ frames := 1, cells := 0, slots := 0, locals := 14 } : Room).slots) := by
  exact rm6_33 l Z a0 hw ws a1 q2 a3 a8 q10 q11 kc12 h0 n0 Z0 F4 F5 F6 F7 F9 F13 hc14 hc15 hc16 hc17 hc18
def Q5_35 (Z : State) (a1 : Addr) (q2 : Int64) (a4 : Addr) (a9 : Addr) (q11 : Int64) (q12 : Int64) (kc13 : ClassId) (a21 : Addr) (a24 : Addr) (a25 : Addr) (kc26 : ClassId) (h0 : Heap) (n0 : Nat) (v : Option Value) (h : Heap) (L : List Loc) : Prop := v = some (.ref a24) ∧ Fr n0 L ∧ Keep h0 h [a1] ∧ Fld Z h a1 zs2 "side" zs4 (.ref a4) ∧ Fld Z h a1 zs2 "count" "I" (.int 2) ∧ Fld Z h a1 zs2 "ranks" "[J" (.ref a9) ∧ Fld Z h a1 zs2 "levels" zs3 (.ref a21) ∧ Fld Z h a1 zs2 "emptyLevels" "I" (.int (-1))
set_option maxRecDepth 65536 in
set_option maxHeartbeats 40000000 in
theorem rm5_35 (l : Launch) (Z : State) (a0 : Array Value) (hw : ∀ d ∈ tables_1, d.before a0 Z = true) (ws : List Jvm.Cond) (a1 : Addr) (q2 : Int64) (a4 : Addr) (a9 : Addr) (q11 : Int64) (q12 : Int64) (kc13 : ClassId) (a21 : Addr) (a24 : Addr) (a25 : Addr) (kc26 : ClassId) (h0 : Heap) (n0 : Nat) (Z0 : n0 ≤ h0.size) (F5 : Fld Z h0 a1 zs2 "side" zs4 (.ref a4)) (F6 : Sta Z h0 zs6 "BUY" zs4 (.ref a4)) (F7 : Exa Z h0 a1 zs2) (F8 : Fld Z h0 a1 zs2 "count" "I" (.int 2)) (F10 : Fld Z h0 a1 zs2 "ranks" "[J" (.ref a9)) (F14 : Arv Z h0 a9 kc13 .long (16 : Int32) [(.long q11), (.long q12)] (.long (0 : Int64))) (hc15 : ¬ (q12 < q2)) (hc16 : ¬ (q11 < q2)) (hc17 : ¬ (q2 = (-9223372036854775808 : Int64))) (hc18 : ¬ (q2 = (9223372036854775807 : Int64))) (hc19 : q11 = q2) (F22 : Fld Z h0 a1 zs2 "levels" zs3 (.ref a21)) (F27 : Arv Z h0 a21 kc26 (.object zs1) (16 : Int32) [(.ref a24), (.ref a25)] .null) (F31 : Exa Z h0 a24 zs1) (F32 : Fld Z h0 a24 zs1 "first" zs11 .null) (F34 : Fld Z h0 a1 zs2 "emptyLevels" "I" (.int 0)) (g37 : n0 ≤ a1) (ne42 : a21 ≠ a1) :
    MetFree l zm7 (head1 (Jvm.Cond.code zm7 prog_2_method_5_code 7 (some (.object zs1)) :: ws) ({ frames := 2, cells := 0, slots := 0, locals := 36 } : Room)) (fun a U => a = #[(.ref a1), (.long q2), .null] ∧ Z.Warmed39 U.vm ∧ U.heap = h0) (fun _ _ _ _ _ => True) (fun _ U o U' => ∃ v L, o = .returned v ∧ Q5_35 Z a1 q2 a4 a9 q11 q12 kc13 a21 a24 a25 kc26 h0 n0 v U'.heap L ∧ FrameEnd U o U' L ({ frames := 2, cells := 0, slots := 0, locals := 36 } : Room).cells ({ frames := 2, cells := 0, slots := 0, locals := 36 } : Room).slots) := by
  refine MetFree.of_bodySF (plainFor_of_name pn_com_example_srok_srok_engine_BookSide) hisR ?_
  intro p e s m args below meth c s₁ Bd hml0 hP hK
  obtain ⟨rfl, hZ, hh⟩ := hP
  have hx := Bd.exec
  have hby := Bd.bytes
  have hml : c.maxLocals = 7 := hml0
  have hown : s.vm.findClass zs2 = some m.cls := findClass_of_methodNamed Bd.named
  have hnm := (name_of_methodNamed Bd.named Bd.method).1
  have X0 : Stand p l e ({ frames := 2, cells := 0, slots := 0, locals := 36 } : Room) s m #[(.ref a1), (.long q2), .null] below meth c s₁ [] 0 0 := Stand.of_body Bd
  have e0 : s₁.heap = h0 := by rw [← hh, Bd.state]; rfl
  have N0 := Fr.nil n0
  refine own_pre (g' := mkF m 0 (lc10 a1 q2) []) (ef_7 m a1 q2) ?_
  obtain ⟨_, T3, L3, X3, hQ3, st3⟩ := ocallP X0 hx hZ zm5 hown (ww hw 39 rfl) (ww hw 40 rfl) (own_selP (mvT hZ (ww hw 10 rfl)) (mvP hZ (ww hw 41 rfl)) (mvT hZ (ww hw 40 rfl)) (by decide)) (ww hw 41 rfl) (by decide) (ww hw 42 rfl) (ww hw 11 rfl) e0 F7 (mg6_34 l Z a0 hw [] a1 q2 a4 a9 q11 q12 kc13 h0 n0 Z0 F5 F6 F7 F8 F10 F14 hc15 hc16 hc17 hc18 hc19) (st := [.null, (.long q2), (.ref a1)]) rfl 0 rfl (by decide) (pc := 3) (Ls := (lc10 a1 q2)) hml rfl (lenOf pd_4 rfl) d5_3 hby
  obtain ⟨rfl, N3q, e3⟩ := hQ3
  have N20 := Fr.app N0 N3q
  refine own_go (U' := T3.setTop (mkF m 10 (lc20 a1 q2 0) [(.int 0)])) (fun t k => oaloadN X0 hx hby d5_0 rfl rfl (olloadN X0 hx hby d5_1 rfl (oaloadN X0 hx hby d5_2 rfl rfl (st3 _ (oistore X3 hx hby d5_6 (lc20 a1 q2 0) rfl (oiload X3 hx hby d5_8 rfl k)))))) ?_
  obtain ⟨T23, X23, e23, st23⟩ := getF X3 hx hZ hown (host := "") (Or.inl (ww hw 20 rfl)) Via.refl e3 F22 (g := (mkF m 14 (lc20 a1 q2 0) [(.ref a1)])) rfl rfl (hb hby d5_14)
  obtain ⟨cl28, Ar28, q28, S28, N28, H28, G28⟩ := id F27
  have hin29 : ¬ ((0 : Int32) < 0 ∨ cl28.slots.size ≤ ((0 : Int32)).toNatClampNeg) := inb_of S28 ⟨by decide, by decide⟩
  have hat29 : cl28.slots[((0 : Int32)).toNatClampNeg]? = some (.ref a24) := Has.at H28 hin29 rfl
  obtain ⟨_, T30, L30, X30, hQ30, st30⟩ := ocallV X23 hx hZ zm9 zm9 hown (ww hw 72 rfl) (ww hw 73 rfl) (notFace_of_selects (args := #[]) (mvT hZ (ww hw 75 rfl))) (ww hw 75 rfl) (ww hw 74 rfl) (by decide) (ww hw 76 rfl) (ww hw 59 rfl) e23 F31 (rm11_27 l Z a0 hw [] a24 h0 n0 Z0 F32) (st := [(.ref a24)]) rfl 0 rfl (by decide) (pc := 20) (Ls := (lc20 a1 q2 0)) hml rfl (lenOf pd_8 rfl) d5_20 hby
  obtain ⟨rfl, N30q, e30⟩ := hQ30
  have N33 := Fr.app N20 N30q
  refine own_go (U' := T30.setTop (mkF m 23 (lc20 a1 q2 0) [(.int 1)])) (fun t k => oifN X3 hx hby d5_10 (by decide) (oaloadN X3 hx hby d5_13 rfl rfl (st23 _ (oiload X23 hx hby d5_17 rfl (X23.aaload hx (j := (0 : Int32)) (v := (.ref a24)) (by rw [e23]; exact Ar28.1) (State.isArrayOf_alike hZ.alike Ar28.2.1) rfl Ar28.2.2 hin29 hat29 (g := (mkF m 19 (lc20 a1 q2 0) [(.int 0), (.ref a21)])) rfl rfl (hb hby d5_19) _ (st30 _ k)))))) ?_
  obtain ⟨T35, X35, e35, st35⟩ := getF X30 hx hZ hown (host := "") (Or.inl (ww hw 79 rfl)) Via.refl e30 F34 (g := (mkF m 28 (lc20 a1 q2 0) [(.ref a1), (.ref a1)])) rfl rfl (hb hby d5_28)
  refine own_go (U' := T35.setTop (mkF m 33 (lc20 a1 q2 0) [(.int ((0 : Int32) - (1 : Int32))), (.ref a1)])) (fun t k => oifN X30 hx hby d5_23 (by decide) (oaloadN X30 hx hby d5_26 rfl rfl (odup X30 hx hby d5_27 rfl (st35 _ (oiconst X35 hx hby d5_31 (oisub X35 hx hby d5_32 k)))))) ?_
  rw [show ((0 : Int32) - (1 : Int32)) = (-1 : Int32) from by decide]
  obtain ⟨T36, h36, X36, e36, W36, st36⟩ := putF X35 hx hZ hown (host := "") (Or.inl (ww hw 79 rfl)) Via.refl e35 F34 F7 (Or.inl (ww hw 80 rfl)) (ww hw 10 rfl) (ty := .int) (by decide) rfl rfl (g := (mkF m 33 (lc20 a1 q2 0) [(.int (-1)), (.ref a1)])) rfl rfl (hb hby d5_33)
  have N38 := Fr.snoc X36 N33 g37
  have f39 : Fld Z h36 a1 zs2 "emptyLevels" "I" (.int (-1)) := Fld.same W36 F34
  have f40 : Fld Z h36 a1 zs2 "levels" zs3 (.ref a21) := (Fld.other W36 F22 (Or.inr (slot_ne (Or.inl (ww hw 21 rfl)) (Or.inl (ww hw 80 rfl)) (by decide) (t := (.array (.object zs1))) (t' := .int) (by decide) (by decide))))
  obtain ⟨T41, X41, e41, st41⟩ := getF X36 hx hZ hown (host := "") (Or.inl (ww hw 20 rfl)) Via.refl e36 f40 (g := (mkF m 37 (lc20 a1 q2 0) [(.ref a1)])) rfl rfl (hb hby d5_37)
  have f43 : Arv Z h36 a21 kc26 (.object zs1) (16 : Int32) [(.ref a24), (.ref a25)] .null := (F27.other W36 ne42)
  obtain ⟨cl44, Ar44, q44, S44, N44, H44, G44⟩ := id f43
  have hin45 : ¬ ((0 : Int32) < 0 ∨ cl44.slots.size ≤ ((0 : Int32)).toNatClampNeg) := inb_of S44 ⟨by decide, by decide⟩
  have hat45 : cl44.slots[((0 : Int32)).toNatClampNeg]? = some (.ref a24) := Has.at H44 hin45 rfl
  refine own_go (U' := T41.setTop (mkF m 43 (lc20 a1 q2 0) [(.ref a24)])) (fun t k => st36 _ (oaloadN X36 hx hby d5_36 rfl rfl (st41 _ (oiload X41 hx hby d5_40 rfl (X41.aaload hx (j := (0 : Int32)) (v := (.ref a24)) (by rw [e41]; exact Ar44.1) (State.isArrayOf_alike hZ.alike Ar44.2.1) rfl Ar44.2.2 hin45 hat45 (g := (mkF m 42 (lc20 a1 q2 0) [(.int 0), (.ref a21)])) rfl rfl (hb hby d5_42) _ k))))) ?_
  have f46 : Fld Z h36 a1 zs2 "side" zs4 (.ref a4) := (Fld.other W36 F5 (Or.inr (slot_ne (Or.inr (ww hw 26 rfl)) (Or.inl (ww hw 80 rfl)) (by decide) (t := (.object zs6)) (t' := .int) (by decide) (by decide))))
  have f47 : Fld Z h36 a1 zs2 "count" "I" (.int 2) := (Fld.other W36 F8 (Or.inr (slot_ne (Or.inl (ww hw 33 rfl)) (Or.inl (ww hw 80 rfl)) (by decide) (t := .int) (t' := .int) (by decide) (by decide))))
  have f48 : Fld Z h36 a1 zs2 "ranks" "[J" (.ref a9) := (Fld.other W36 F10 (Or.inr (slot_ne (Or.inl (ww hw 24 rfl)) (Or.inl (ww hw 80 rfl)) (by decide) (t := (.array .long)) (t' := .int) (by decide) (by decide))))
  obtain ⟨fs, hr, hrun, hended, hW, hsame⟩ := X41.leave (v := some (.ref a24)) (fun h => by rw [Bd.returns] at h; cases h)
  refine own_out ⟨_, _, ?_, hrun, hended, _, _, rfl, ?_, ⟨_, rfl⟩, hW, hsame.mono (by decide) (by decide)⟩
  · exact retOut X41 hx Bd.returns rfl (Or.inr (Or.inr (Or.inr (Or.inr ⟨rfl, rfl, rfl⟩)))) (hb hby d5_43) hr
  · show Q5_35 Z a1 q2 a4 a9 q11 q12 kc13 a21 a24 a25 kc26 h0 n0 _ T41.heap _
    rw [e41]
    exact ⟨rfl, N38, ((Keep.refl h0 [a1]).wr W36 (Or.inl (List.mem_of_getElem? (i := 0) rfl))), f46, f47, f48, f40, f39⟩
def Q6_36 (Z : State) (a1 : Addr) (q2 : Int64) (a4 : Addr) (a11 : Addr) (q14 : Int64) (q15 : Int64) (kc16 : ClassId) (h0 : Heap) (n0 : Nat) (v : Option Value) (h : Heap) (L : List Loc) : Prop := v = some (.int (-1)) ∧ Fr n0 L ∧ h = h0
set_option maxRecDepth 65536 in
set_option maxHeartbeats 40000000 in
theorem rm6_36 (l : Launch) (Z : State) (a0 : Array Value) (hw : ∀ d ∈ tables_1, d.before a0 Z = true) (ws : List Jvm.Cond) (a1 : Addr) (q2 : Int64) (a4 : Addr) (a11 : Addr) (q14 : Int64) (q15 : Int64) (kc16 : ClassId) (h0 : Heap) (n0 : Nat) (Z0 : n0 ≤ h0.size) (F5 : Fld Z h0 a1 zs2 "side" zs4 (.ref a4)) (F6 : Sta Z h0 zs6 "BUY" zs4 (.ref a4)) (F7 : Exa Z h0 a1 zs2) (F9 : Fld Z h0 a1 zs2 "count" "I" (.int 2)) (F12 : Fld Z h0 a1 zs2 "ranks" "[J" (.ref a11)) (F17 : Arv Z h0 a11 kc16 .long (16 : Int32) [(.long q14), (.long q15)] (.long (0 : Int64))) (hc20 : ¬ (q15 < q2)) (hc26 : ¬ (q14 < q2)) (hc27 : ¬ (q2 = (-9223372036854775808 : Int64))) (hc28 : ¬ (q2 = (9223372036854775807 : Int64))) (hc33 : ¬ (q14 = q2)) :
    MetFree l zm5 (head1 (Jvm.Cond.code zm5 prog_2_method_8_code 11 (some .int) :: ws) ({ frames := 1, cells := 0, slots := 0, locals := 14 } : Room)) (fun a U => a = #[(.ref a1), (.long q2), .null] ∧ Z.Warmed39 U.vm ∧ U.heap = h0) (fun _ _ _ _ _ => True) (fun _ U o U' => ∃ v L, o = .returned v ∧ Q6_36 Z a1 q2 a4 a11 q14 q15 kc16 h0 n0 v U'.heap L ∧ FrameEnd U o U' L ({ frames := 1, cells := 0, slots := 0, locals := 14 } : Room).cells ({ frames := 1, cells := 0, slots := 0, locals := 14 } : Room).slots) := by
  refine MetFree.of_bodySF (plainFor_of_name pn_com_example_srok_srok_engine_BookSide) hisR ?_
  intro p e s m args below meth c s₁ Bd hml0 hP hK
  obtain ⟨rfl, hZ, hh⟩ := hP
  have hx := Bd.exec
  have hby := Bd.bytes
  have hml : c.maxLocals = 11 := hml0
  have hown : s.vm.findClass zs2 = some m.cls := findClass_of_methodNamed Bd.named
  have hnm := (name_of_methodNamed Bd.named Bd.method).1
  have X0 : Stand p l e ({ frames := 1, cells := 0, slots := 0, locals := 14 } : Room) s m #[(.ref a1), (.long q2), .null] below meth c s₁ [] 0 0 := Stand.of_body Bd
  have e0 : s₁.heap = h0 := by rw [← hh, Bd.state]; rfl
  have N0 := Fr.nil n0
  refine own_pre (g' := mkF m 0 (lc11 a1 q2) []) (ef_5 m a1 q2) ?_
  obtain ⟨_, T3, L3, X3, hQ3, st3⟩ := ocallP X0 hx hZ zm3 hown (ww hw 43 rfl) (ww hw 44 rfl) (own_selP (mvT hZ (ww hw 10 rfl)) (mvP hZ (ww hw 45 rfl)) (mvT hZ (ww hw 44 rfl)) (by decide)) (ww hw 45 rfl) (by decide) (ww hw 46 rfl) (ww hw 11 rfl) e0 F7 (rm7_6 l Z a0 hw [] a1 q2 a4 h0 n0 Z0 F5 F6) (st := [(.long q2), (.ref a1)]) rfl 0 rfl (by decide) (pc := 2) (Ls := (lc11 a1 q2)) hml rfl (lenOf pd_0 rfl) d6_2 hby
  obtain ⟨rfl, N3q, e3⟩ := hQ3
  have N8 := Fr.app N0 N3q
  obtain ⟨T10, X10, e10, st10⟩ := getF X3 hx hZ hown (host := "") (Or.inl (ww hw 32 rfl)) Via.refl e3 F9 (g := (mkF m 8 (lc13 a1 q2 q2) [(.ref a1)])) rfl rfl (hb hby d6_8)
  refine own_go (U' := T10.setTop (mkF m 21 (lc15 a1 q2 q2 2 1) [(.int 1)])) (fun t k => oaloadN X0 hx hby d6_0 rfl rfl (olloadN X0 hx hby d6_1 rfl (st3 _ (olstore X3 hx hby d6_5 (lc13 a1 q2 q2) rfl (oaloadN X3 hx hby d6_7 rfl rfl (st10 _ (oistore X10 hx hby d6_11 (lc14 a1 q2 q2 2) rfl (oiconst X10 hx hby d6_13 (oistore X10 hx hby d6_14 (lc15 a1 q2 q2 2 1) rfl (oiload X10 hx hby d6_16 rfl (oiload X10 hx hby d6_18 rfl (oisub X10 hx hby d6_20 k)))))))))))) ?_
  obtain ⟨T13, X13, e13, st13⟩ := getF X10 hx hZ hown (host := "") (Or.inl (ww hw 23 rfl)) Via.refl e10 F12 (g := (mkF m 25 (lc15 a1 q2 q2 2 1) [(.ref a1)])) rfl rfl (hb hby d6_25)
  obtain ⟨cl18, Ar18, q18, S18, N18, H18, G18⟩ := id F17
  have hin19 : ¬ ((1 : Int32) < 0 ∨ cl18.slots.size ≤ ((1 : Int32)).toNatClampNeg) := inb_of S18 ⟨by decide, by decide⟩
  have hat19 : cl18.slots[((1 : Int32)).toNatClampNeg]? = some (.long q15) := Has.at H18 hin19 rfl
  refine own_go (U' := T13.setTop (mkF m 37 (lc15 a1 q2 q2 2 1) [(.int (lcmpW q15 q2))])) (fun t k => oifN X10 hx hby d6_21 (by decide) (oaloadN X10 hx hby d6_24 rfl rfl (st13 _ (oiload X13 hx hby d6_28 rfl (oiload X13 hx hby d6_30 rfl (oisub X13 hx hby d6_32 (X13.laload hx (j := (1 : Int32)) (v := (.long q15)) (by rw [e13]; exact Ar18.1) (State.isArrayOf_alike hZ.alike Ar18.2.1) Ar18.2.2 hin19 hat19 (g := (mkF m 33 (lc15 a1 q2 q2 2 1) [(.int 1), (.ref a11)])) rfl rfl (hb hby d6_33) _ (olload X13 hx hby d6_34 rfl (olcmp X13 hx hby d6_36 k))))))))) ?_
  refine own_go (U' := T13.setTop (mkF m 16 (lc15 a1 q2 q2 1 2) [])) (fun t k => oifN X13 hx hby d6_37 (own_ll_lt_f hc20) (oiload X13 hx hby d6_40 rfl (oiload X13 hx hby d6_42 rfl (oisub X13 hx hby d6_44 (oistore X13 hx hby d6_45 (lc15 a1 q2 q2 1 1) rfl (oiload X13 hx hby d6_47 rfl (oiconst X13 hx hby d6_49 (oimul X13 hx hby d6_50 (oistore X13 hx hby d6_51 (lc15 a1 q2 q2 1 2) rfl (ogoto (pc := 53) X13 hx hby d6_53 16 (by decide) k)))))))))) ?_
  refine own_go (U' := T13.setTop (mkF m 21 (lc15 a1 q2 q2 1 2) [(.int ((1 : Int32) - (2 : Int32)))])) (fun t k => oiload X13 hx hby d6_16 rfl (oiload X13 hx hby d6_18 rfl (oisub X13 hx hby d6_20 k))) ?_
  rw [show ((1 : Int32) - (2 : Int32)) = (-1 : Int32) from by decide]
  refine own_go (U' := T13.setTop (mkF m 62 (lc15 a1 q2 q2 1 2) [(.int ((1 : Int32) - (2 : Int32))), (.int 0)])) (fun t k => oifY (pc := 21) X13 hx hby d6_21 56 (by decide) (by decide) (oiconst X13 hx hby d6_56 (oiload X13 hx hby d6_57 rfl (oiload X13 hx hby d6_59 rfl (oisub X13 hx hby d6_61 k))))) ?_
  rw [show ((1 : Int32) - (2 : Int32)) = (-1 : Int32) from by decide]
  refine own_go (U' := T13.setTop (mkF m 64 (lc15 a1 q2 q2 1 2) [(.int ((-1 : Int32) + (1 : Int32))), (.int 0)])) (fun t k => oiconst X13 hx hby d6_62 (oiadd X13 hx hby d6_63 k)) ?_
  rw [show ((-1 : Int32) + (1 : Int32)) = (0 : Int32) from by decide]
  obtain ⟨_, T21, L21, X21, hQ21, st21⟩ := ocallS X13 hx hZ zm4 hown (ww hw 48 rfl) (ww hw 49 rfl) (by decide) (ww hw 51 rfl) (ww hw 50 rfl) e13 (rm8_7 l Z a0 hw []  h0 n0 Z0 ) (st := [(.int 0), (.int 0)]) rfl 0 rfl (by decide) (pc := 64) (Ls := (lc15 a1 q2 q2 1 2)) hml rfl (lenOf pd_3 rfl) d6_64 hby
  obtain ⟨rfl, N21q, e21⟩ := hQ21
  have N22 := Fr.app N8 N21q
  refine own_go (U' := T21.setTop (mkF m 79 (lc18 a1 q2 q2 1 2 0 1) [(.int 1), (.int 1)])) (fun t k => st21 _ (oistore X21 hx hby d6_67 (lc17 a1 q2 q2 1 2 0) rfl (oiload X21 hx hby d6_69 rfl (oiload X21 hx hby d6_71 rfl (oisub X21 hx hby d6_73 (oistore X21 hx hby d6_74 (lc18 a1 q2 q2 1 2 0 1) rfl (oiload X21 hx hby d6_76 rfl (oiconst X21 hx hby d6_78 k)))))))) ?_
  refine own_go (U' := T21.setTop (mkF m 132 (lc18 a1 q2 q2 1 2 0 1) [(.int 1), (.int 0)])) (fun t k => oicY (pc := 79) X21 hx hby d6_79 128 (by decide) (by decide) (oiload X21 hx hby d6_128 rfl (oiload X21 hx hby d6_130 rfl k))) ?_
  obtain ⟨T23, X23, e23, st23⟩ := getF X21 hx hZ hown (host := "") (Or.inl (ww hw 23 rfl)) Via.refl e21 F12 (g := (mkF m 136 (lc18 a1 q2 q2 1 2 0 1) [(.ref a1)])) rfl rfl (hb hby d6_136)
  obtain ⟨cl24, Ar24, q24, S24, N24, H24, G24⟩ := id F17
  have hin25 : ¬ ((0 : Int32) < 0 ∨ cl24.slots.size ≤ ((0 : Int32)).toNatClampNeg) := inb_of S24 ⟨by decide, by decide⟩
  have hat25 : cl24.slots[((0 : Int32)).toNatClampNeg]? = some (.long q14) := Has.at H24 hin25 rfl
  refine own_go (U' := T23.setTop (mkF m 145 (lc18 a1 q2 q2 1 2 0 1) [(.int (lcmpW q14 q2))])) (fun t k => oicN X21 hx hby d6_132 (by decide) (oaloadN X21 hx hby d6_135 rfl rfl (st23 _ (oiload X23 hx hby d6_139 rfl (X23.laload hx (j := (0 : Int32)) (v := (.long q14)) (by rw [e23]; exact Ar24.1) (State.isArrayOf_alike hZ.alike Ar24.2.1) Ar24.2.2 hin25 hat25 (g := (mkF m 141 (lc18 a1 q2 q2 1 2 0 1) [(.int 0), (.ref a11)])) rfl rfl (hb hby d6_141) _ (olload X23 hx hby d6_142 rfl (olcmp X23 hx hby d6_144 k))))))) ?_
  refine own_go (U' := T23.setTop (mkF m 157 (lc18 a1 q2 q2 1 2 0 1) [(.int (lcmpW q2 (-9223372036854775808 : Int64)))])) (fun t k => oifY (pc := 145) X23 hx hby d6_145 151 (own_ll_ge_t hc26) (by decide) (olload X23 hx hby d6_151 rfl (X23.ldc2Long hx hown (mvT hZ (ww hw 52 rfl)) (g := (mkF m 153 (lc18 a1 q2 q2 1 2 0 1) [(.long q2)])) rfl (hb hby d6_153) _ (olcmp X23 hx hby d6_156 k)))) ?_
  refine own_go (U' := T23.setTop (mkF m 166 (lc18 a1 q2 q2 1 2 0 1) [(.int (lcmpW q2 (9223372036854775807 : Int64)))])) (fun t k => oifN X23 hx hby d6_157 (own_ll_eq_f hc27) (olload X23 hx hby d6_160 rfl (X23.ldc2Long hx hown (mvT hZ (ww hw 53 rfl)) (g := (mkF m 162 (lc18 a1 q2 q2 1 2 0 1) [(.long q2)])) rfl (hb hby d6_162) _ (olcmp X23 hx hby d6_165 k)))) ?_
  refine own_go (U' := T23.setTop (mkF m 178 (lc18 a1 q2 q2 1 2 0 1) [(.int 1)])) (fun t k => oifN X23 hx hby d6_166 (own_ll_eq_f hc28) (oiconst X23 hx hby d6_169 (ogoto (pc := 170) X23 hx hby d6_170 174 (by decide) (oistore X23 hx hby d6_174 (lc18 a1 q2 q2 1 2 0 1) rfl (oiload X23 hx hby d6_176 rfl k))))) ?_
  obtain ⟨T29, X29, e29, st29⟩ := getF X23 hx hZ hown (host := "") (Or.inl (ww hw 32 rfl)) Via.refl e23 F9 (g := (mkF m 230 (lc18 a1 q2 q2 1 2 0 1) [(.ref a1), (.int 0)])) rfl rfl (hb hby d6_230)
  refine own_go (U' := T29.setTop (mkF m 233 (lc18 a1 q2 q2 1 2 0 1) [(.int 2), (.int 0)])) (fun t k => oifY (pc := 178) X23 hx hby d6_178 227 (by decide) (by decide) (oiload X23 hx hby d6_227 rfl (oaloadN X23 hx hby d6_229 rfl rfl (st29 _ k)))) ?_
  obtain ⟨T30, X30, e30, st30⟩ := getF X29 hx hZ hown (host := "") (Or.inl (ww hw 23 rfl)) Via.refl e29 F12 (g := (mkF m 237 (lc18 a1 q2 q2 1 2 0 1) [(.ref a1)])) rfl rfl (hb hby d6_237)
  obtain ⟨cl31, Ar31, q31, S31, N31, H31, G31⟩ := id F17
  have hin32 : ¬ ((0 : Int32) < 0 ∨ cl31.slots.size ≤ ((0 : Int32)).toNatClampNeg) := inb_of S31 ⟨by decide, by decide⟩
  have hat32 : cl31.slots[((0 : Int32)).toNatClampNeg]? = some (.long q14) := Has.at H31 hin32 rfl
  refine own_go (U' := T30.setTop (mkF m 246 (lc18 a1 q2 q2 1 2 0 1) [(.int (lcmpW q14 q2))])) (fun t k => oicN X29 hx hby d6_233 (by decide) (oaloadN X29 hx hby d6_236 rfl rfl (st30 _ (oiload X30 hx hby d6_240 rfl (X30.laload hx (j := (0 : Int32)) (v := (.long q14)) (by rw [e30]; exact Ar31.1) (State.isArrayOf_alike hZ.alike Ar31.2.1) Ar31.2.2 hin32 hat32 (g := (mkF m 242 (lc18 a1 q2 q2 1 2 0 1) [(.int 0), (.ref a11)])) rfl rfl (hb hby d6_242) _ (olload X30 hx hby d6_243 rfl (olcmp X30 hx hby d6_245 k))))))) ?_
  refine own_go (U' := T30.setTop (mkF m 280 (lc19 a1 q2 q2 1 2 0 1 0) [(.int 0)])) (fun t k => oifY (pc := 246) X30 hx hby d6_246 275 (own_ll_ne_t hc33) (by decide) (oiconst X30 hx hby d6_275 (oistore X30 hx hby d6_276 (lc19 a1 q2 q2 1 2 0 1 0) rfl (oiload X30 hx hby d6_278 rfl k)))) ?_
  refine own_go (U' := T30.setTop (mkF m 292 (lc19 a1 q2 q2 1 2 0 1 0) [(.int ((-1 : Int32) - (0 : Int32)))])) (fun t k => oifY (pc := 280) X30 hx hby d6_280 288 (by decide) (by decide) (oiconst X30 hx hby d6_288 (oiload X30 hx hby d6_289 rfl (oisub X30 hx hby d6_291 k)))) ?_
  rw [show ((-1 : Int32) - (0 : Int32)) = (-1 : Int32) from by decide]
  obtain ⟨fs, hr, hrun, hended, hW, hsame⟩ := X30.leave (v := some (.int (-1))) (fun h => by rw [Bd.returns] at h; cases h)
  refine own_out ⟨_, _, ?_, hrun, hended, _, _, rfl, ?_, ⟨_, rfl⟩, hW, hsame.mono (by decide) (by decide)⟩
  · exact retI X30 hx Bd.returns (hb hby d6_292) hr
  · show Q6_36 Z a1 q2 a4 a11 q14 q15 kc16 h0 n0 _ T30.heap _
    rw [e30]
    exact ⟨rfl, N22, rfl⟩
def Qmg6_37 (Z : State) (a1 : Addr) (q2 : Int64) (a3 : Addr) (a8 : Addr) (q10 : Int64) (q11 : Int64) (kc12 : ClassId) (h0 : Heap) (n0 : Nat) (v : Option Value) (h : Heap) (L : List Loc) : Prop := v = some (.int (-1)) ∧ Fr n0 L ∧ h = h0
theorem mg6_37 (l : Launch) (Z : State) (a0 : Array Value) (hw : ∀ d ∈ tables_1, d.before a0 Z = true) (ws : List Jvm.Cond) (a1 : Addr) (q2 : Int64) (a3 : Addr) (a8 : Addr) (q10 : Int64) (q11 : Int64) (kc12 : ClassId) (h0 : Heap) (n0 : Nat) (Z0 : n0 ≤ h0.size) (F4 : Fld Z h0 a1 zs2 "side" zs4 (.ref a3)) (F5 : Sta Z h0 zs6 "BUY" zs4 (.ref a3)) (F6 : Exa Z h0 a1 zs2) (F7 : Fld Z h0 a1 zs2 "count" "I" (.int 2)) (F9 : Fld Z h0 a1 zs2 "ranks" "[J" (.ref a8)) (F13 : Arv Z h0 a8 kc12 .long (16 : Int32) [(.long q10), (.long q11)] (.long (0 : Int64))) (hc14 : ¬ (q11 < q2)) (hc15 : ¬ (q10 < q2)) (hc16 : ¬ (q2 = (-9223372036854775808 : Int64))) (hc17 : ¬ (q2 = (9223372036854775807 : Int64))) (hc18 : ¬ (q10 = q2)) :
    MetFree l zm5 (head1 (Jvm.Cond.code zm5 prog_2_method_8_code 11 (some .int) :: ws) ({ frames := 1, cells := 0, slots := 0, locals := 14 } : Room)) (fun a U => a = #[(.ref a1), (.long q2), .null] ∧ Z.Warmed39 U.vm ∧ U.heap = h0) (fun _ _ _ _ _ => True) (fun _ U o U' => ∃ v L, o = .returned v ∧ Qmg6_37 Z a1 q2 a3 a8 q10 q11 kc12 h0 n0 v U'.heap L ∧ FrameEnd U o U' L ({ frames := 1, cells := 0, slots := 0, locals := 14 } : Room).cells ({ frames := 1, cells := 0, slots := 0, locals := 14 } : Room).slots) := by
  exact rm6_36 l Z a0 hw ws a1 q2 a3 a8 q10 q11 kc12 h0 n0 Z0 F4 F5 F6 F7 F9 F13 hc14 hc15 hc16 hc17 hc18
def Q5_38 (Z : State) (a1 : Addr) (q2 : Int64) (a4 : Addr) (a9 : Addr) (q11 : Int64) (q12 : Int64) (kc13 : ClassId) (a22 : Addr) (a25 : Addr) (a26 : Addr) (kc27 : ClassId) (h0 : Heap) (n0 : Nat) (v : Option Value) (h : Heap) (L : List Loc) : Prop := ∃ b52 : Addr, v = some (.ref b52) ∧ Fr n0 L ∧ Keep h0 h [a22, a9, a1] ∧ h0.size ≤ b52 ∧ Arv Z h a22 kc27 (.object zs1) (16 : Int32) [(.ref b52), (.ref a25), (.ref a26)] .null ∧ Arv Z h a9 kc13 .long (16 : Int32) [(.long q2), (.long q11), (.long q12)] (.long (0 : Int64)) ∧ Fld Z h a1 zs2 "side" zs4 (.ref a4) ∧ Fld Z h a1 zs2 "count" "I" (.int 3) ∧ Fld Z h a1 zs2 "ranks" "[J" (.ref a9) ∧ Fld Z h a1 zs2 "levels" zs3 (.ref a22) ∧ Fld Z h a1 zs2 "emptyLevels" "I" (.int 0) ∧ Exa Z h b52 zs1 ∧ Fld Z h b52 zs1 "price" zs10 .null ∧ Fld Z h b52 zs1 "priceSteps" "J" (.long q2) ∧ Fld Z h b52 zs1 "first" zs11 .null
set_option maxRecDepth 65536 in
set_option maxHeartbeats 40000000 in
theorem rm5_38 (l : Launch) (Z : State) (a0 : Array Value) (hw : ∀ d ∈ tables_1, d.before a0 Z = true) (ws : List Jvm.Cond) (a1 : Addr) (q2 : Int64) (a4 : Addr) (a9 : Addr) (q11 : Int64) (q12 : Int64) (kc13 : ClassId) (a22 : Addr) (a25 : Addr) (a26 : Addr) (kc27 : ClassId) (h0 : Heap) (n0 : Nat) (Z0 : n0 ≤ h0.size) (F5 : Fld Z h0 a1 zs2 "side" zs4 (.ref a4)) (F6 : Sta Z h0 zs6 "BUY" zs4 (.ref a4)) (F7 : Exa Z h0 a1 zs2) (F8 : Fld Z h0 a1 zs2 "count" "I" (.int 2)) (F10 : Fld Z h0 a1 zs2 "ranks" "[J" (.ref a9)) (F14 : Arv Z h0 a9 kc13 .long (16 : Int32) [(.long q11), (.long q12)] (.long (0 : Int64))) (hc15 : ¬ (q12 < q2)) (hc16 : ¬ (q11 < q2)) (hc17 : ¬ (q2 = (-9223372036854775808 : Int64))) (hc18 : ¬ (q2 = (9223372036854775807 : Int64))) (hc19 : ¬ (q11 = q2)) (F23 : Fld Z h0 a1 zs2 "levels" zs3 (.ref a22)) (F28 : Arv Z h0 a22 kc27 (.object zs1) (16 : Int32) [(.ref a25), (.ref a26)] .null) (g35 : n0 ≤ a22) (O36 : Ovr Z kc27 zs1) (F37 : Exa Z h0 a26 zs1) (F38 : Exa Z h0 a25 zs1) (ne40 : a1 ≠ a22) (ne47 : a9 ≠ a22) (g50 : n0 ≤ a9) (ne62 : a1 ≠ a9) (F88 : Fld Z h0 a1 zs2 "emptyLevels" "I" (.int 0)) (g91 : n0 ≤ a1) :
    MetFree l zm7 (head1 (Jvm.Cond.code zm7 prog_2_method_5_code 7 (some (.object zs1)) :: ws) ({ frames := 2, cells := 1, slots := 4, locals := 36 } : Room)) (fun a U => a = #[(.ref a1), (.long q2), .null] ∧ Z.Warmed39 U.vm ∧ U.heap = h0) (fun _ _ _ _ _ => True) (fun _ U o U' => ∃ v L, o = .returned v ∧ Q5_38 Z a1 q2 a4 a9 q11 q12 kc13 a22 a25 a26 kc27 h0 n0 v U'.heap L ∧ FrameEnd U o U' L ({ frames := 2, cells := 1, slots := 4, locals := 36 } : Room).cells ({ frames := 2, cells := 1, slots := 4, locals := 36 } : Room).slots) := by
  refine MetFree.of_bodySF (plainFor_of_name pn_com_example_srok_srok_engine_BookSide) hisR ?_
  intro p e s m args below meth c s₁ Bd hml0 hP hK
  obtain ⟨rfl, hZ, hh⟩ := hP
  have hx := Bd.exec
  have hby := Bd.bytes
  have hml : c.maxLocals = 7 := hml0
  have hown : s.vm.findClass zs2 = some m.cls := findClass_of_methodNamed Bd.named
  have hnm := (name_of_methodNamed Bd.named Bd.method).1
  have X0 : Stand p l e ({ frames := 2, cells := 1, slots := 4, locals := 36 } : Room) s m #[(.ref a1), (.long q2), .null] below meth c s₁ [] 0 0 := Stand.of_body Bd
  have e0 : s₁.heap = h0 := by rw [← hh, Bd.state]; rfl
  have N0 := Fr.nil n0
  refine own_pre (g' := mkF m 0 (lc10 a1 q2) []) (ef_7 m a1 q2) ?_
  obtain ⟨_, T3, L3, X3, hQ3, st3⟩ := ocallP X0 hx hZ zm5 hown (ww hw 39 rfl) (ww hw 40 rfl) (own_selP (mvT hZ (ww hw 10 rfl)) (mvP hZ (ww hw 41 rfl)) (mvT hZ (ww hw 40 rfl)) (by decide)) (ww hw 41 rfl) (by decide) (ww hw 42 rfl) (ww hw 11 rfl) e0 F7 (mg6_37 l Z a0 hw [] a1 q2 a4 a9 q11 q12 kc13 h0 n0 Z0 F5 F6 F7 F8 F10 F14 hc15 hc16 hc17 hc18 hc19) (st := [.null, (.long q2), (.ref a1)]) rfl 0 rfl (by decide) (pc := 3) (Ls := (lc10 a1 q2)) hml rfl (lenOf pd_4 rfl) d5_3 hby
  obtain ⟨rfl, N3q, e3⟩ := hQ3
  have N20 := Fr.app N0 N3q
  refine own_go (U' := T3.setTop (mkF m 10 (lc20 a1 q2 (-1)) [(.int (-1))])) (fun t k => oaloadN X0 hx hby d5_0 rfl rfl (olloadN X0 hx hby d5_1 rfl (oaloadN X0 hx hby d5_2 rfl rfl (st3 _ (oistore X3 hx hby d5_6 (lc20 a1 q2 (-1)) rfl (oiload X3 hx hby d5_8 rfl k)))))) ?_
  refine own_go (U' := T3.setTop (mkF m 47 (lc20 a1 q2 (-1)) [(.int (-(-1 : Int32)))])) (fun t k => oifY (pc := 10) X3 hx hby d5_10 44 (by decide) (by decide) (oiload X3 hx hby d5_44 rfl (oineg X3 hx hby d5_46 k))) ?_
  rw [show (-(-1 : Int32)) = (1 : Int32) from by decide]
  obtain ⟨T21, X21, e21, st21⟩ := getF X3 hx hZ hown (host := "") (Or.inl (ww hw 32 rfl)) Via.refl e3 F8 (g := (mkF m 52 (lc21 a1 q2 (-1) 0) [(.ref a1)])) rfl rfl (hb hby d5_52)
  obtain ⟨T24, X24, e24, st24⟩ := getF X21 hx hZ hown (host := "") (Or.inl (ww hw 20 rfl)) Via.refl e21 F23 (g := (mkF m 56 (lc21 a1 q2 (-1) 0) [(.ref a1), (.int 2)])) rfl rfl (hb hby d5_56)
  refine own_go (U' := T24.setTop (mkF m 59 (lc21 a1 q2 (-1) 0) [(.ref a22), (.int 2)])) (fun t k => oiconst X3 hx hby d5_47 (oisub X3 hx hby d5_48 (oistore X3 hx hby d5_49 (lc21 a1 q2 (-1) 0) rfl (oaloadN X3 hx hby d5_51 rfl rfl (st21 _ (oaloadN X21 hx hby d5_55 rfl rfl (st24 _ k))))))) ?_
  obtain ⟨cl29, Ar29, q29, S29, N29, H29, G29⟩ := id F28
  refine own_go (fun t k => X24.arraylength hx (by rw [e24]; exact Ar29.1) (State.isArrayOf_alike hZ.alike Ar29.2.1) (g := (mkF m 59 (lc21 a1 q2 (-1) 0) [(.ref a22), (.int 2)])) rfl rfl (hb hby d5_59) _ k) ?_
  rw [len_of S29 N29]
  obtain ⟨T30, X30, e30, st30⟩ := getF X24 hx hZ hown (host := "") (Or.inl (ww hw 20 rfl)) Via.refl e24 F23 (g := (mkF m 101 (lc21 a1 q2 (-1) 0) [(.ref a1)])) rfl rfl (hb hby d5_101)
  obtain ⟨T31, X31, e31, st31⟩ := getF X30 hx hZ hown (host := "") (Or.inl (ww hw 20 rfl)) Via.refl e30 F23 (g := (mkF m 107 (lc21 a1 q2 (-1) 0) [(.ref a1), (.int 0), (.ref a22)])) rfl rfl (hb hby d5_107)
  obtain ⟨T32, X32, e32, st32⟩ := getF X31 hx hZ hown (host := "") (Or.inl (ww hw 32 rfl)) Via.refl e31 F8 (g := (mkF m 115 (lc21 a1 q2 (-1) 0) [(.ref a1), (.int 1), (.ref a22), (.int 0), (.ref a22)])) rfl rfl (hb hby d5_115)
  have f34 : Arv Z h0 a22 kc27 (.object zs1) (16 : Int32) [(.ref a25), (.ref a26), .null] .null := F28.pad (pad_rep [(.ref a25), (.ref a26)] .null 1)
  obtain ⟨cl33, Ar33, q33, -⟩ := id f34
  obtain ⟨T33, h33, L33, X33, e33, N33, K33, V33, st33⟩ := cpA X32 hx hZ hown (ww hw 54 rfl) (ww hw 57 rfl) (ww hw 55 rfl) (ww hw 56 rfl) e32 (us := [(.ref a25), (.ref a26)]) f34 f34 (Or.inr ⟨rfl, rfl, ⟨(Sto.ofV Ar33 q33 O36 (Ins.self F38)), ⟨(Sto.ofV Ar33 q33 O36 (Ins.self F37)), trivial⟩⟩⟩) (by decide) (by decide) (by decide) (by decide) (by decide) rfl (Nat.le_of_ble_eq_true rfl) N20 g35 (g := (mkF m 121 (lc21 a1 q2 (-1) 0) [(.int 2), (.int 1), (.ref a22), (.int 0), (.ref a22)])) rfl (by rw [hml]; rfl) rfl (hb hby d5_121) (by decide) (W := 0) (by show 2 * 0 + _ ≤ _; exact Nat.le_of_eq rfl) (by decide)
  have f39 : Arv Z h33 a22 kc27 (.object zs1) (16 : Int32) [(.ref a25), (.ref a25), (.ref a26)] .null := V33
  have f41 : Fld Z h33 a1 zs2 "ranks" "[J" (.ref a9) := (F10.keep K33 (ninS ne40 nin0))
  obtain ⟨T42, X42, e42, st42⟩ := getF X33 hx hZ hown (host := "") (Or.inl (ww hw 23 rfl)) Via.refl e33 f41 (g := (mkF m 125 (lc21 a1 q2 (-1) 0) [(.ref a1)])) rfl rfl (hb hby d5_125)
  obtain ⟨T43, X43, e43, st43⟩ := getF X42 hx hZ hown (host := "") (Or.inl (ww hw 23 rfl)) Via.refl e42 f41 (g := (mkF m 131 (lc21 a1 q2 (-1) 0) [(.ref a1), (.int 0), (.ref a9)])) rfl rfl (hb hby d5_131)
  have f44 : Fld Z h33 a1 zs2 "count" "I" (.int 2) := (F8.keep K33 (ninS ne40 nin0))
  obtain ⟨T45, X45, e45, st45⟩ := getF X43 hx hZ hown (host := "") (Or.inl (ww hw 32 rfl)) Via.refl e43 f44 (g := (mkF m 139 (lc21 a1 q2 (-1) 0) [(.ref a1), (.int 1), (.ref a9), (.int 0), (.ref a9)])) rfl rfl (hb hby d5_139)
  have f48 : Arv Z h33 a9 kc13 .long (16 : Int32) [(.long q11), (.long q12)] (.long (0 : Int64)) := (F14.keep K33 (ninS ne47 nin0))
  have f49 : Arv Z h33 a9 kc13 .long (16 : Int32) [(.long q11), (.long q12), (.long 0)] (.long (0 : Int64)) := f48.pad (pad_rep [(.long q11), (.long q12)] (.long (0 : Int64)) 1)
  obtain ⟨T46, h46, L46, X46, e46, N46, K46, V46, st46⟩ := cpA X45 hx hZ hown (ww hw 54 rfl) (ww hw 57 rfl) (ww hw 55 rfl) (ww hw 56 rfl) e45 (us := [(.long q11), (.long q12)]) f49 f49 (Or.inl ⟨rfl, rfl⟩) (by decide) (by decide) (by decide) (by decide) (by decide) rfl (Nat.le_of_ble_eq_true rfl) N33 g50 (g := (mkF m 145 (lc21 a1 q2 (-1) 0) [(.int 2), (.int 1), (.ref a9), (.int 0), (.ref a9)])) rfl (by rw [hml]; rfl) rfl (hb hby d5_145) (by decide) (W := 0) (by show 2 * 0 + _ ≤ _; exact Nat.le_of_eq rfl) (by decide)
  have f51 : Arv Z h46 a9 kc13 .long (16 : Int32) [(.long q11), (.long q11), (.long q12)] (.long (0 : Int64)) := V46
  obtain ⟨T52, h52, X52, e52, E52, A52, D52, -, st52⟩ := newO X46 hx hZ hown (ww hw 18 rfl) (ww hw 58 rfl) (ww hw 59 rfl) e46 (g := (mkF m 148 (lc21 a1 q2 (-1) 0) [])) rfl (hb hby d5_148) (by decide) (by decide)
  obtain ⟨b52, g52⟩ : ∃ z, z = h46.size := ⟨_, rfl⟩
  rw [← g52] at A52 D52 st52
  have f53 : Fld Z h52 b52 zs1 "price" zs10 .null := D52 (Or.inr (ww hw 65 rfl)) (ty := (.object zs13)) (by decide)
  have f54 : Fld Z h52 b52 zs1 "priceSteps" "J" (.long 0) := D52 (Or.inr (ww hw 67 rfl)) (ty := .long) (by decide)
  have f55 : Fld Z h52 b52 zs1 "first" zs11 .null := D52 (Or.inl (ww hw 78 rfl)) (ty := (.object zs14)) (by decide)
  have Z_1 : n0 ≤ h33.size := Nat.le_trans Z0 K33.1
  have Z_2 : n0 ≤ h46.size := Nat.le_trans Z_1 K46.1
  have g57 : n0 ≤ b52 := Nat.le_trans Z_2 (Nat.le_of_eq g52.symm)
  have Z_3 : n0 ≤ h52.size := Nat.le_trans Z_2 E52.1
  obtain ⟨_, T56, L56, X56, hQ56, st56⟩ := ocallI X52 hx hZ zm6 rfl hown (ww hw 60 rfl) (ww hw 61 rfl) (by decide) (ww hw 62 rfl) (ww hw 59 rfl) e52 (rm9_10 l Z a0 hw [] b52 q2 h52 n0 Z_3 f53 f54 f55 A52 g57) (st := [(.long q2), .null, (.ref b52), (.ref b52)]) rfl 1 rfl (by decide) (pc := 154) (Ls := (lc21 a1 q2 (-1) 0)) hml rfl (lenOf pd_5 rfl) d5_154 hby
  obtain ⟨rfl, N56q, K56, f58, f59, f60⟩ := hQ56
  have N61 := Fr.app N46 N56q
  have ne63 : a1 ≠ b52 := Nat.ne_of_lt (Nat.lt_of_lt_of_le (Nat.lt_of_lt_of_le (Nat.lt_of_lt_of_le (F5.lt) K33.1) K46.1) (Nat.le_of_eq g52.symm))
  have f64 : Fld Z T56.heap a1 zs2 "levels" zs3 (.ref a22) := ((Fld.ext E52 ((F23.keep K33 (ninS ne40 nin0)).keep K46 (ninS ne62 nin0))).keep K56 (ninS ne63 nin0))
  obtain ⟨T65, X65, e65, st65⟩ := getF X56 hx hZ hown (host := "") (Or.inl (ww hw 20 rfl)) Via.refl rfl f64 (g := (mkF m 160 (lc23 a1 q2 (-1) 0 b52) [(.ref a1)])) rfl rfl (hb hby d5_160)
  have ne66 : a22 ≠ b52 := Nat.ne_of_lt (Nat.lt_of_lt_of_le (Nat.lt_of_lt_of_le (f39.lt) K46.1) (Nat.le_of_eq g52.symm))
  have f67 : Arv Z T56.heap a22 kc27 (.object zs1) (16 : Int32) [(.ref a25), (.ref a25), (.ref a26)] .null := (((f39.keep K46 (ninS (Ne.symm ne47) nin0)).ext E52).keep K56 (ninS ne66 nin0))
  have f68 : Exa Z T56.heap b52 zs1 := (A52.keep K56)
  obtain ⟨cl69, Ar69, q69, S69, N69, H69, G69⟩ := id f67
  have hin70 : ¬ ((0 : Int32) < 0 ∨ cl69.slots.size ≤ ((0 : Int32)).toNatClampNeg) := inb_of S69 ⟨by decide, by decide⟩
  obtain ⟨T70, h70, X70, e70, W70, st70⟩ := stR X65 hx hZ e65 Ar69 (j := (0 : Int32)) hin70 rfl (Sto.ofV Ar69 q69 O36 (Ins.self f68)) (g := (mkF m 167 (lc23 a1 q2 (-1) 0 b52) [(.ref b52), (.int 0), (.ref a22)])) rfl rfl (hb hby d5_167)
  have N71 := Fr.snoc X70 N61 g35
  have f72 : Arv Z h70 a22 kc27 (.object zs1) (16 : Int32) [(.ref b52), (.ref a25), (.ref a26)] .null := Arv.set Ar69 q69 S69 N69 H69 G69 (by rfl) W70 0 rfl (Nat.le_of_ble_eq_true rfl)
  have f73 : Fld Z h70 a1 zs2 "ranks" "[J" (.ref a9) := (Fld.other W70 ((Fld.ext E52 (f41.keep K46 (ninS ne62 nin0))).keep K56 (ninS ne63 nin0)) (Or.inl ne40))
  obtain ⟨T74, X74, e74, st74⟩ := getF X70 hx hZ hown (host := "") (Or.inl (ww hw 23 rfl)) Via.refl e70 f73 (g := (mkF m 169 (lc23 a1 q2 (-1) 0 b52) [(.ref a1)])) rfl rfl (hb hby d5_169)
  have f76 : Fld Z h70 a1 zs2 "side" zs4 (.ref a4) := (Fld.other W70 ((Fld.ext E52 ((F5.keep K33 (ninS ne40 nin0)).keep K46 (ninS ne62 nin0))).keep K56 (ninS ne63 nin0)) (Or.inl ne40))
  have f77 : Sta Z h70 zs6 "BUY" zs4 (.ref a4) := (Sta.wr W70 (own_staK (Sta.ext E52 (own_staK (own_staK F6 K33 (allS (own_nsV f34) all0)) K46 (allS (own_nsV f49) all0))) K56 (allS (own_nsF f53) all0)))
  have Z_4 : n0 ≤ T56.heap.size := Nat.le_trans Z_3 K56.1
  have Z_5 : n0 ≤ h70.size := Nat.le_trans Z_4 (Keep.of_wr W70).1
  have f78 : Exa Z h70 a1 zs2 := (Exa.wr W70 ((Exa.ext E52 ((F7.keep K33).keep K46)).keep K56))
  obtain ⟨_, T75, L75, X75, hQ75, st75⟩ := ocallP X74 hx hZ zm3 hown (ww hw 43 rfl) (ww hw 44 rfl) (own_selP (mvT hZ (ww hw 10 rfl)) (mvP hZ (ww hw 45 rfl)) (mvT hZ (ww hw 44 rfl)) (by decide)) (ww hw 45 rfl) (by decide) (ww hw 46 rfl) (ww hw 11 rfl) e74 f78 (rm7_6 l Z a0 hw [] a1 q2 a4 h70 n0 Z_5 f76 f77) (st := [(.long q2), (.ref a1), (.int 0), (.ref a9)]) rfl 2 rfl (by decide) (pc := 176) (Ls := (lc23 a1 q2 (-1) 0 b52)) hml rfl (lenOf pd_0 rfl) d5_176 hby
  obtain ⟨rfl, N75q, e75⟩ := hQ75
  have N79 := Fr.app N71 N75q
  have ne80 : a9 ≠ b52 := Nat.ne_of_lt (Nat.lt_of_lt_of_le (f51.lt) (Nat.le_of_eq g52.symm))
  have f81 : Arv Z h70 a9 kc13 .long (16 : Int32) [(.long q11), (.long q11), (.long q12)] (.long (0 : Int64)) := (((f51.ext E52).keep K56 (ninS ne80 nin0)).other W70 ne47)
  obtain ⟨cl82, Ar82, q82, S82, N82, H82, G82⟩ := id f81
  have hin83 : ¬ ((0 : Int32) < 0 ∨ cl82.slots.size ≤ ((0 : Int32)).toNatClampNeg) := inb_of S82 ⟨by decide, by decide⟩
  obtain ⟨T83, h83, X83, e83, W83, st83⟩ := stJ X75 hx hZ e75 Ar82 (j := (0 : Int32)) hin83 (g := (mkF m 179 (lc23 a1 q2 (-1) 0 b52) [(.long q2), (.int 0), (.ref a9)])) rfl rfl (hb hby d5_179)
  have N84 := Fr.snoc X83 N79 g50
  have f85 : Arv Z h83 a9 kc13 .long (16 : Int32) [(.long q2), (.long q11), (.long q12)] (.long (0 : Int64)) := Arv.set Ar82 q82 S82 N82 H82 G82 (by rfl) W83 0 rfl (Nat.le_of_ble_eq_true rfl)
  have f86 : Fld Z h83 a1 zs2 "count" "I" (.int 2) := (Fld.other W83 (Fld.other W70 ((Fld.ext E52 (f44.keep K46 (ninS ne62 nin0))).keep K56 (ninS ne63 nin0)) (Or.inl ne40)) (Or.inl ne62))
  obtain ⟨T87, X87, e87, st87⟩ := getF X83 hx hZ hown (host := "") (Or.inl (ww hw 32 rfl)) Via.refl e83 f86 (g := (mkF m 182 (lc23 a1 q2 (-1) 0 b52) [(.ref a1), (.ref a1)])) rfl rfl (hb hby d5_182)
  have f89 : Exa Z h83 a1 zs2 := (Exa.wr W83 f78)
  obtain ⟨T90, h90, X90, e90, W90, st90⟩ := putF X87 hx hZ hown (host := "") (Or.inl (ww hw 32 rfl)) Via.refl e87 f86 f89 (Or.inl (ww hw 33 rfl)) (ww hw 10 rfl) (ty := .int) (by decide) rfl rfl (g := (mkF m 187 (lc23 a1 q2 (-1) 0 b52) [(.int 3), (.ref a1)])) rfl rfl (hb hby d5_187)
  have N92 := Fr.snoc X90 N84 g91
  have f93 : Fld Z h90 a1 zs2 "count" "I" (.int 3) := Fld.same W90 f86
  refine own_go (U' := T90.setTop (mkF m 192 (lc23 a1 q2 (-1) 0 b52) [(.ref b52)])) (fun t k => oicY (pc := 60) X24 hx hby d5_60 100 (by decide) (by decide) (oaloadN X24 hx hby d5_100 rfl rfl (st30 _ (oiload X30 hx hby d5_104 rfl (oaloadN X30 hx hby d5_106 rfl rfl (st31 _ (oiload X31 hx hby d5_110 rfl (oiconst X31 hx hby d5_112 (oiadd X31 hx hby d5_113 (oaloadN X31 hx hby d5_114 rfl rfl (st32 _ (oiload X32 hx hby d5_118 rfl (oisub X32 hx hby d5_120 (st33 _ (oaloadN X33 hx hby d5_124 rfl rfl (st42 _ (oiload X42 hx hby d5_128 rfl (oaloadN X42 hx hby d5_130 rfl rfl (st43 _ (oiload X43 hx hby d5_134 rfl (oiconst X43 hx hby d5_136 (oiadd X43 hx hby d5_137 (oaloadN X43 hx hby d5_138 rfl rfl (st45 _ (oiload X45 hx hby d5_142 rfl (oisub X45 hx hby d5_144 (st46 _ (st52 _ (odup X52 hx hby d5_151 rfl (oaloadN X52 hx hby d5_152 rfl rfl (olloadN X52 hx hby d5_153 rfl (st56 _ (oastore X56 hx hby d5_157 (lc23 a1 q2 (-1) 0 b52) rfl rfl (oaloadN X56 hx hby d5_159 rfl rfl (st65 _ (oiload X65 hx hby d5_163 rfl (oaload X65 hx hby d5_165 rfl rfl (st70 _ (oaloadN X70 hx hby d5_168 rfl rfl (st74 _ (oiload X74 hx hby d5_172 rfl (oaloadN X74 hx hby d5_174 rfl rfl (olloadN X74 hx hby d5_175 rfl (st75 _ (st83 _ (oaloadN X83 hx hby d5_180 rfl rfl (odup X83 hx hby d5_181 rfl (st87 _ (oiconst X87 hx hby d5_185 (oiadd X87 hx hby d5_186 (st90 _ (oaload X90 hx hby d5_190 rfl rfl k)))))))))))))))))))))))))))))))))))))))))))))))))))) ?_
  have f94 : Arv Z h90 a22 kc27 (.object zs1) (16 : Int32) [(.ref b52), (.ref a25), (.ref a26)] .null := ((f72.other W83 (Ne.symm ne47)).other W90 (Ne.symm ne40))
  have f95 : Arv Z h90 a9 kc13 .long (16 : Int32) [(.long q2), (.long q11), (.long q12)] (.long (0 : Int64)) := (f85.other W90 (Ne.symm ne62))
  have f96 : Fld Z h90 a1 zs2 "side" zs4 (.ref a4) := (Fld.other W90 (Fld.other W83 f76 (Or.inl ne62)) (Or.inr (slot_ne (Or.inr (ww hw 26 rfl)) (Or.inl (ww hw 33 rfl)) (by decide) (t := (.object zs6)) (t' := .int) (by decide) (by decide))))
  have f97 : Fld Z h90 a1 zs2 "ranks" "[J" (.ref a9) := (Fld.other W90 (Fld.other W83 f73 (Or.inl ne62)) (Or.inr (slot_ne (Or.inl (ww hw 24 rfl)) (Or.inl (ww hw 33 rfl)) (by decide) (t := (.array .long)) (t' := .int) (by decide) (by decide))))
  have f98 : Fld Z h90 a1 zs2 "levels" zs3 (.ref a22) := (Fld.other W90 (Fld.other W83 (Fld.other W70 f64 (Or.inl ne40)) (Or.inl ne62)) (Or.inr (slot_ne (Or.inl (ww hw 21 rfl)) (Or.inl (ww hw 33 rfl)) (by decide) (t := (.array (.object zs1))) (t' := .int) (by decide) (by decide))))
  have f99 : Fld Z h90 a1 zs2 "emptyLevels" "I" (.int 0) := (Fld.other W90 (Fld.other W83 (Fld.other W70 ((Fld.ext E52 ((F88.keep K33 (ninS ne40 nin0)).keep K46 (ninS ne62 nin0))).keep K56 (ninS ne63 nin0)) (Or.inl ne40)) (Or.inl ne62)) (Or.inr (slot_ne (Or.inl (ww hw 80 rfl)) (Or.inl (ww hw 33 rfl)) (by decide) (t := .int) (t' := .int) (by decide) (by decide))))
  have f100 : Exa Z h90 b52 zs1 := (Exa.wr W90 (Exa.wr W83 (Exa.wr W70 f68)))
  have f101 : Fld Z h90 b52 zs1 "price" zs10 .null := (Fld.other W90 (Fld.other W83 (Fld.other W70 f58 (Or.inl (Ne.symm ne66))) (Or.inl (Ne.symm ne80))) (Or.inl (Ne.symm ne63)))
  have f102 : Fld Z h90 b52 zs1 "priceSteps" "J" (.long q2) := (Fld.other W90 (Fld.other W83 (Fld.other W70 f59 (Or.inl (Ne.symm ne66))) (Or.inl (Ne.symm ne80))) (Or.inl (Ne.symm ne63)))
  have f103 : Fld Z h90 b52 zs1 "first" zs11 .null := (Fld.other W90 (Fld.other W83 (Fld.other W70 f60 (Or.inl (Ne.symm ne66))) (Or.inl (Ne.symm ne80))) (Or.inl (Ne.symm ne63)))
  obtain ⟨fs, hr, hrun, hended, hW, hsame⟩ := X90.leave (v := some (.ref b52)) (fun h => by rw [Bd.returns] at h; cases h)
  refine own_out ⟨_, _, ?_, hrun, hended, _, _, rfl, ?_, ⟨_, rfl⟩, hW, hsame.mono (by decide) (by decide)⟩
  · exact retOut X90 hx Bd.returns rfl (Or.inr (Or.inr (Or.inr (Or.inr ⟨rfl, rfl, rfl⟩)))) (hb hby d5_192) hr
  · show Q5_38 Z a1 q2 a4 a9 q11 q12 kc13 a22 a25 a26 kc27 h0 n0 _ T90.heap _
    rw [e90]
    exact ⟨b52, rfl, N92, ((((Keep.trans ((Keep.trans (Keep.trans (Keep.refl h0 [a22, a9, a1]) K33 (allS (Or.inl (List.mem_of_getElem? (i := 0) rfl)) all0)) K46 (allS (Or.inl (List.mem_of_getElem? (i := 1) rfl)) all0)).ext E52) K56 (allS (Or.inr (Nat.le_trans K33.1 (Nat.le_trans K46.1 (Nat.le_of_eq g52.symm)))) all0)).wr W70 (Or.inl (List.mem_of_getElem? (i := 0) rfl))).wr W83 (Or.inl (List.mem_of_getElem? (i := 1) rfl))).wr W90 (Or.inl (List.mem_of_getElem? (i := 2) rfl))), (Nat.le_trans K33.1 (Nat.le_trans K46.1 (Nat.le_of_eq g52.symm))), f94, f95, f96, f93, f97, f98, f99, f100, f101, f102, f103⟩
def Q6_39 (Z : State) (a1 : Addr) (q2 : Int64) (a4 : Addr) (a11 : Addr) (q14 : Int64) (kc15 : ClassId) (h0 : Heap) (n0 : Nat) (v : Option Value) (h : Heap) (L : List Loc) : Prop := v = some (.int 0) ∧ Fr n0 L ∧ h = h0
set_option maxRecDepth 65536 in
set_option maxHeartbeats 40000000 in
theorem rm6_39 (l : Launch) (Z : State) (a0 : Array Value) (hw : ∀ d ∈ tables_1, d.before a0 Z = true) (ws : List Jvm.Cond) (a1 : Addr) (q2 : Int64) (a4 : Addr) (a11 : Addr) (q14 : Int64) (kc15 : ClassId) (h0 : Heap) (n0 : Nat) (Z0 : n0 ≤ h0.size) (F5 : Fld Z h0 a1 zs2 "side" zs4 (.ref a4)) (F6 : Sta Z h0 zs6 "BUY" zs4 (.ref a4)) (F7 : Exa Z h0 a1 zs2) (F9 : Fld Z h0 a1 zs2 "count" "I" (.int 1)) (F12 : Fld Z h0 a1 zs2 "ranks" "[J" (.ref a11)) (F16 : Arv Z h0 a11 kc15 .long (16 : Int32) [(.long q14)] (.long (0 : Int64))) (hc19 : ¬ (q14 < q2)) (hc22 : ¬ (q2 = (-9223372036854775808 : Int64))) (hc23 : ¬ (q2 = (9223372036854775807 : Int64))) (hc28 : q14 = q2) :
    MetFree l zm5 (head1 (Jvm.Cond.code zm5 prog_2_method_8_code 11 (some .int) :: ws) ({ frames := 1, cells := 0, slots := 0, locals := 14 } : Room)) (fun a U => a = #[(.ref a1), (.long q2), .null] ∧ Z.Warmed39 U.vm ∧ U.heap = h0) (fun _ _ _ _ _ => True) (fun _ U o U' => ∃ v L, o = .returned v ∧ Q6_39 Z a1 q2 a4 a11 q14 kc15 h0 n0 v U'.heap L ∧ FrameEnd U o U' L ({ frames := 1, cells := 0, slots := 0, locals := 14 } : Room).cells ({ frames := 1, cells := 0, slots := 0, locals := 14 } : Room).slots) := by
  refine MetFree.of_bodySF (plainFor_of_name pn_com_example_srok_srok_engine_BookSide) hisR ?_
  intro p e s m args below meth c s₁ Bd hml0 hP hK
  obtain ⟨rfl, hZ, hh⟩ := hP
  have hx := Bd.exec
  have hby := Bd.bytes
  have hml : c.maxLocals = 11 := hml0
  have hown : s.vm.findClass zs2 = some m.cls := findClass_of_methodNamed Bd.named
  have hnm := (name_of_methodNamed Bd.named Bd.method).1
  have X0 : Stand p l e ({ frames := 1, cells := 0, slots := 0, locals := 14 } : Room) s m #[(.ref a1), (.long q2), .null] below meth c s₁ [] 0 0 := Stand.of_body Bd
  have e0 : s₁.heap = h0 := by rw [← hh, Bd.state]; rfl
  have N0 := Fr.nil n0
  refine own_pre (g' := mkF m 0 (lc11 a1 q2) []) (ef_5 m a1 q2) ?_
  obtain ⟨_, T3, L3, X3, hQ3, st3⟩ := ocallP X0 hx hZ zm3 hown (ww hw 43 rfl) (ww hw 44 rfl) (own_selP (mvT hZ (ww hw 10 rfl)) (mvP hZ (ww hw 45 rfl)) (mvT hZ (ww hw 44 rfl)) (by decide)) (ww hw 45 rfl) (by decide) (ww hw 46 rfl) (ww hw 11 rfl) e0 F7 (rm7_6 l Z a0 hw [] a1 q2 a4 h0 n0 Z0 F5 F6) (st := [(.long q2), (.ref a1)]) rfl 0 rfl (by decide) (pc := 2) (Ls := (lc11 a1 q2)) hml rfl (lenOf pd_0 rfl) d6_2 hby
  obtain ⟨rfl, N3q, e3⟩ := hQ3
  have N8 := Fr.app N0 N3q
  obtain ⟨T10, X10, e10, st10⟩ := getF X3 hx hZ hown (host := "") (Or.inl (ww hw 32 rfl)) Via.refl e3 F9 (g := (mkF m 8 (lc13 a1 q2 q2) [(.ref a1)])) rfl rfl (hb hby d6_8)
  refine own_go (U' := T10.setTop (mkF m 21 (lc15 a1 q2 q2 1 1) [(.int 0)])) (fun t k => oaloadN X0 hx hby d6_0 rfl rfl (olloadN X0 hx hby d6_1 rfl (st3 _ (olstore X3 hx hby d6_5 (lc13 a1 q2 q2) rfl (oaloadN X3 hx hby d6_7 rfl rfl (st10 _ (oistore X10 hx hby d6_11 (lc14 a1 q2 q2 1) rfl (oiconst X10 hx hby d6_13 (oistore X10 hx hby d6_14 (lc15 a1 q2 q2 1 1) rfl (oiload X10 hx hby d6_16 rfl (oiload X10 hx hby d6_18 rfl (oisub X10 hx hby d6_20 k)))))))))))) ?_
  obtain ⟨T13, X13, e13, st13⟩ := getF X10 hx hZ hown (host := "") (Or.inl (ww hw 23 rfl)) Via.refl e10 F12 (g := (mkF m 25 (lc15 a1 q2 q2 1 1) [(.ref a1)])) rfl rfl (hb hby d6_25)
  obtain ⟨cl17, Ar17, q17, S17, N17, H17, G17⟩ := id F16
  have hin18 : ¬ ((0 : Int32) < 0 ∨ cl17.slots.size ≤ ((0 : Int32)).toNatClampNeg) := inb_of S17 ⟨by decide, by decide⟩
  have hat18 : cl17.slots[((0 : Int32)).toNatClampNeg]? = some (.long q14) := Has.at H17 hin18 rfl
  refine own_go (U' := T13.setTop (mkF m 37 (lc15 a1 q2 q2 1 1) [(.int (lcmpW q14 q2))])) (fun t k => oifN X10 hx hby d6_21 (by decide) (oaloadN X10 hx hby d6_24 rfl rfl (st13 _ (oiload X13 hx hby d6_28 rfl (oiload X13 hx hby d6_30 rfl (oisub X13 hx hby d6_32 (X13.laload hx (j := (0 : Int32)) (v := (.long q14)) (by rw [e13]; exact Ar17.1) (State.isArrayOf_alike hZ.alike Ar17.2.1) Ar17.2.2 hin18 hat18 (g := (mkF m 33 (lc15 a1 q2 q2 1 1) [(.int 0), (.ref a11)])) rfl rfl (hb hby d6_33) _ (olload X13 hx hby d6_34 rfl (olcmp X13 hx hby d6_36 k))))))))) ?_
  refine own_go (U' := T13.setTop (mkF m 16 (lc15 a1 q2 q2 0 2) [])) (fun t k => oifN X13 hx hby d6_37 (own_ll_lt_f hc19) (oiload X13 hx hby d6_40 rfl (oiload X13 hx hby d6_42 rfl (oisub X13 hx hby d6_44 (oistore X13 hx hby d6_45 (lc15 a1 q2 q2 0 1) rfl (oiload X13 hx hby d6_47 rfl (oiconst X13 hx hby d6_49 (oimul X13 hx hby d6_50 (oistore X13 hx hby d6_51 (lc15 a1 q2 q2 0 2) rfl (ogoto (pc := 53) X13 hx hby d6_53 16 (by decide) k)))))))))) ?_
  refine own_go (U' := T13.setTop (mkF m 21 (lc15 a1 q2 q2 0 2) [(.int ((0 : Int32) - (2 : Int32)))])) (fun t k => oiload X13 hx hby d6_16 rfl (oiload X13 hx hby d6_18 rfl (oisub X13 hx hby d6_20 k))) ?_
  rw [show ((0 : Int32) - (2 : Int32)) = (-2 : Int32) from by decide]
  refine own_go (U' := T13.setTop (mkF m 62 (lc15 a1 q2 q2 0 2) [(.int ((0 : Int32) - (2 : Int32))), (.int 0)])) (fun t k => oifY (pc := 21) X13 hx hby d6_21 56 (by decide) (by decide) (oiconst X13 hx hby d6_56 (oiload X13 hx hby d6_57 rfl (oiload X13 hx hby d6_59 rfl (oisub X13 hx hby d6_61 k))))) ?_
  rw [show ((0 : Int32) - (2 : Int32)) = (-2 : Int32) from by decide]
  refine own_go (U' := T13.setTop (mkF m 64 (lc15 a1 q2 q2 0 2) [(.int ((-2 : Int32) + (1 : Int32))), (.int 0)])) (fun t k => oiconst X13 hx hby d6_62 (oiadd X13 hx hby d6_63 k)) ?_
  rw [show ((-2 : Int32) + (1 : Int32)) = (-1 : Int32) from by decide]
  obtain ⟨_, T20, L20, X20, hQ20, st20⟩ := ocallS X13 hx hZ zm4 hown (ww hw 48 rfl) (ww hw 49 rfl) (by decide) (ww hw 51 rfl) (ww hw 50 rfl) e13 (rm8_14 l Z a0 hw []  h0 n0 Z0 ) (st := [(.int (-1)), (.int 0)]) rfl 0 rfl (by decide) (pc := 64) (Ls := (lc15 a1 q2 q2 0 2)) hml rfl (lenOf pd_3 rfl) d6_64 hby
  obtain ⟨rfl, N20q, e20⟩ := hQ20
  have N21 := Fr.app N8 N20q
  refine own_go (U' := T20.setTop (mkF m 79 (lc18 a1 q2 q2 0 2 0 0) [(.int 1), (.int 0)])) (fun t k => st20 _ (oistore X20 hx hby d6_67 (lc17 a1 q2 q2 0 2 0) rfl (oiload X20 hx hby d6_69 rfl (oiload X20 hx hby d6_71 rfl (oisub X20 hx hby d6_73 (oistore X20 hx hby d6_74 (lc18 a1 q2 q2 0 2 0 0) rfl (oiload X20 hx hby d6_76 rfl (oiconst X20 hx hby d6_78 k)))))))) ?_
  refine own_go (U' := T20.setTop (mkF m 132 (lc18 a1 q2 q2 0 2 0 0) [(.int 0), (.int 0)])) (fun t k => oicY (pc := 79) X20 hx hby d6_79 128 (by decide) (by decide) (oiload X20 hx hby d6_128 rfl (oiload X20 hx hby d6_130 rfl k))) ?_
  refine own_go (U' := T20.setTop (mkF m 157 (lc18 a1 q2 q2 0 2 0 0) [(.int (lcmpW q2 (-9223372036854775808 : Int64)))])) (fun t k => oicY (pc := 132) X20 hx hby d6_132 151 (by decide) (by decide) (olload X20 hx hby d6_151 rfl (X20.ldc2Long hx hown (mvT hZ (ww hw 52 rfl)) (g := (mkF m 153 (lc18 a1 q2 q2 0 2 0 0) [(.long q2)])) rfl (hb hby d6_153) _ (olcmp X20 hx hby d6_156 k)))) ?_
  refine own_go (U' := T20.setTop (mkF m 166 (lc18 a1 q2 q2 0 2 0 0) [(.int (lcmpW q2 (9223372036854775807 : Int64)))])) (fun t k => oifN X20 hx hby d6_157 (own_ll_eq_f hc22) (olload X20 hx hby d6_160 rfl (X20.ldc2Long hx hown (mvT hZ (ww hw 53 rfl)) (g := (mkF m 162 (lc18 a1 q2 q2 0 2 0 0) [(.long q2)])) rfl (hb hby d6_162) _ (olcmp X20 hx hby d6_165 k)))) ?_
  refine own_go (U' := T20.setTop (mkF m 178 (lc18 a1 q2 q2 0 2 0 1) [(.int 1)])) (fun t k => oifN X20 hx hby d6_166 (own_ll_eq_f hc23) (oiconst X20 hx hby d6_169 (ogoto (pc := 170) X20 hx hby d6_170 174 (by decide) (oistore X20 hx hby d6_174 (lc18 a1 q2 q2 0 2 0 1) rfl (oiload X20 hx hby d6_176 rfl k))))) ?_
  obtain ⟨T24, X24, e24, st24⟩ := getF X20 hx hZ hown (host := "") (Or.inl (ww hw 32 rfl)) Via.refl e20 F9 (g := (mkF m 230 (lc18 a1 q2 q2 0 2 0 1) [(.ref a1), (.int 0)])) rfl rfl (hb hby d6_230)
  refine own_go (U' := T24.setTop (mkF m 233 (lc18 a1 q2 q2 0 2 0 1) [(.int 1), (.int 0)])) (fun t k => oifY (pc := 178) X20 hx hby d6_178 227 (by decide) (by decide) (oiload X20 hx hby d6_227 rfl (oaloadN X20 hx hby d6_229 rfl rfl (st24 _ k)))) ?_
  obtain ⟨T25, X25, e25, st25⟩ := getF X24 hx hZ hown (host := "") (Or.inl (ww hw 23 rfl)) Via.refl e24 F12 (g := (mkF m 237 (lc18 a1 q2 q2 0 2 0 1) [(.ref a1)])) rfl rfl (hb hby d6_237)
  obtain ⟨cl26, Ar26, q26, S26, N26, H26, G26⟩ := id F16
  have hin27 : ¬ ((0 : Int32) < 0 ∨ cl26.slots.size ≤ ((0 : Int32)).toNatClampNeg) := inb_of S26 ⟨by decide, by decide⟩
  have hat27 : cl26.slots[((0 : Int32)).toNatClampNeg]? = some (.long q14) := Has.at H26 hin27 rfl
  refine own_go (U' := T25.setTop (mkF m 246 (lc18 a1 q2 q2 0 2 0 1) [(.int (lcmpW q14 q2))])) (fun t k => oicN X24 hx hby d6_233 (by decide) (oaloadN X24 hx hby d6_236 rfl rfl (st25 _ (oiload X25 hx hby d6_240 rfl (X25.laload hx (j := (0 : Int32)) (v := (.long q14)) (by rw [e25]; exact Ar26.1) (State.isArrayOf_alike hZ.alike Ar26.2.1) Ar26.2.2 hin27 hat27 (g := (mkF m 242 (lc18 a1 q2 q2 0 2 0 1) [(.int 0), (.ref a11)])) rfl rfl (hb hby d6_242) _ (olload X25 hx hby d6_243 rfl (olcmp X25 hx hby d6_245 k))))))) ?_
  refine own_go (U' := T25.setTop (mkF m 251 (lc18 a1 q2 q2 0 2 0 1) [(.int 1)])) (fun t k => oifN X25 hx hby d6_246 (own_ll_ne_f hc28) (oiload X25 hx hby d6_249 rfl k)) ?_
  refine own_go (U' := T25.setTop (mkF m 280 (lc19 a1 q2 q2 0 2 0 1 1) [(.int 1)])) (fun t k => oifY (pc := 251) X25 hx hby d6_251 271 (by decide) (by decide) (oiconst X25 hx hby d6_271 (ogoto (pc := 272) X25 hx hby d6_272 276 (by decide) (oistore X25 hx hby d6_276 (lc19 a1 q2 q2 0 2 0 1 1) rfl (oiload X25 hx hby d6_278 rfl k))))) ?_
  refine own_go (U' := T25.setTop (mkF m 292 (lc19 a1 q2 q2 0 2 0 1 1) [(.int 0)])) (fun t k => oifN X25 hx hby d6_280 (by decide) (oiload X25 hx hby d6_283 rfl (ogoto (pc := 285) X25 hx hby d6_285 292 (by decide) k))) ?_
  obtain ⟨fs, hr, hrun, hended, hW, hsame⟩ := X25.leave (v := some (.int 0)) (fun h => by rw [Bd.returns] at h; cases h)
  refine own_out ⟨_, _, ?_, hrun, hended, _, _, rfl, ?_, ⟨_, rfl⟩, hW, hsame.mono (by decide) (by decide)⟩
  · exact retI X25 hx Bd.returns (hb hby d6_292) hr
  · show Q6_39 Z a1 q2 a4 a11 q14 kc15 h0 n0 _ T25.heap _
    rw [e25]
    exact ⟨rfl, N21, rfl⟩
def Qmg6_40 (Z : State) (a1 : Addr) (q2 : Int64) (a3 : Addr) (a8 : Addr) (q10 : Int64) (kc11 : ClassId) (h0 : Heap) (n0 : Nat) (v : Option Value) (h : Heap) (L : List Loc) : Prop := v = some (.int 0) ∧ Fr n0 L ∧ h = h0
theorem mg6_40 (l : Launch) (Z : State) (a0 : Array Value) (hw : ∀ d ∈ tables_1, d.before a0 Z = true) (ws : List Jvm.Cond) (a1 : Addr) (q2 : Int64) (a3 : Addr) (a8 : Addr) (q10 : Int64) (kc11 : ClassId) (h0 : Heap) (n0 : Nat) (Z0 : n0 ≤ h0.size) (F4 : Fld Z h0 a1 zs2 "side" zs4 (.ref a3)) (F5 : Sta Z h0 zs6 "BUY" zs4 (.ref a3)) (F6 : Exa Z h0 a1 zs2) (F7 : Fld Z h0 a1 zs2 "count" "I" (.int 1)) (F9 : Fld Z h0 a1 zs2 "ranks" "[J" (.ref a8)) (F12 : Arv Z h0 a8 kc11 .long (16 : Int32) [(.long q10)] (.long (0 : Int64))) (hc13 : ¬ (q10 < q2)) (hc14 : ¬ (q2 = (-9223372036854775808 : Int64))) (hc15 : ¬ (q2 = (9223372036854775807 : Int64))) (hc16 : q10 = q2) :
    MetFree l zm5 (head1 (Jvm.Cond.code zm5 prog_2_method_8_code 11 (some .int) :: ws) ({ frames := 1, cells := 0, slots := 0, locals := 14 } : Room)) (fun a U => a = #[(.ref a1), (.long q2), .null] ∧ Z.Warmed39 U.vm ∧ U.heap = h0) (fun _ _ _ _ _ => True) (fun _ U o U' => ∃ v L, o = .returned v ∧ Qmg6_40 Z a1 q2 a3 a8 q10 kc11 h0 n0 v U'.heap L ∧ FrameEnd U o U' L ({ frames := 1, cells := 0, slots := 0, locals := 14 } : Room).cells ({ frames := 1, cells := 0, slots := 0, locals := 14 } : Room).slots) := by
  exact rm6_39 l Z a0 hw ws a1 q2 a3 a8 q10 kc11 h0 n0 Z0 F4 F5 F6 F7 F9 F12 hc13 hc14 hc15 hc16
def Q5_41 (Z : State) (a1 : Addr) (q2 : Int64) (a4 : Addr) (a9 : Addr) (q11 : Int64) (kc12 : ClassId) (a19 : Addr) (a22 : Addr) (kc23 : ClassId) (h0 : Heap) (n0 : Nat) (v : Option Value) (h : Heap) (L : List Loc) : Prop := v = some (.ref a22) ∧ Fr n0 L ∧ Keep h0 h [a1] ∧ Fld Z h a1 zs2 "side" zs4 (.ref a4) ∧ Fld Z h a1 zs2 "count" "I" (.int 1) ∧ Fld Z h a1 zs2 "ranks" "[J" (.ref a9) ∧ Fld Z h a1 zs2 "levels" zs3 (.ref a19) ∧ Fld Z h a1 zs2 "emptyLevels" "I" (.int (-1))
set_option maxRecDepth 65536 in
set_option maxHeartbeats 40000000 in
theorem rm5_41 (l : Launch) (Z : State) (a0 : Array Value) (hw : ∀ d ∈ tables_1, d.before a0 Z = true) (ws : List Jvm.Cond) (a1 : Addr) (q2 : Int64) (a4 : Addr) (a9 : Addr) (q11 : Int64) (kc12 : ClassId) (a19 : Addr) (a22 : Addr) (kc23 : ClassId) (h0 : Heap) (n0 : Nat) (Z0 : n0 ≤ h0.size) (F5 : Fld Z h0 a1 zs2 "side" zs4 (.ref a4)) (F6 : Sta Z h0 zs6 "BUY" zs4 (.ref a4)) (F7 : Exa Z h0 a1 zs2) (F8 : Fld Z h0 a1 zs2 "count" "I" (.int 1)) (F10 : Fld Z h0 a1 zs2 "ranks" "[J" (.ref a9)) (F13 : Arv Z h0 a9 kc12 .long (16 : Int32) [(.long q11)] (.long (0 : Int64))) (hc14 : ¬ (q11 < q2)) (hc15 : ¬ (q2 = (-9223372036854775808 : Int64))) (hc16 : ¬ (q2 = (9223372036854775807 : Int64))) (hc17 : q11 = q2) (F20 : Fld Z h0 a1 zs2 "levels" zs3 (.ref a19)) (F24 : Arv Z h0 a19 kc23 (.object zs1) (16 : Int32) [(.ref a22)] .null) (F28 : Exa Z h0 a22 zs1) (F29 : Fld Z h0 a22 zs1 "first" zs11 .null) (F31 : Fld Z h0 a1 zs2 "emptyLevels" "I" (.int 0)) (g34 : n0 ≤ a1) (ne39 : a19 ≠ a1) :
    MetFree l zm7 (head1 (Jvm.Cond.code zm7 prog_2_method_5_code 7 (some (.object zs1)) :: ws) ({ frames := 2, cells := 0, slots := 0, locals := 36 } : Room)) (fun a U => a = #[(.ref a1), (.long q2), .null] ∧ Z.Warmed39 U.vm ∧ U.heap = h0) (fun _ _ _ _ _ => True) (fun _ U o U' => ∃ v L, o = .returned v ∧ Q5_41 Z a1 q2 a4 a9 q11 kc12 a19 a22 kc23 h0 n0 v U'.heap L ∧ FrameEnd U o U' L ({ frames := 2, cells := 0, slots := 0, locals := 36 } : Room).cells ({ frames := 2, cells := 0, slots := 0, locals := 36 } : Room).slots) := by
  refine MetFree.of_bodySF (plainFor_of_name pn_com_example_srok_srok_engine_BookSide) hisR ?_
  intro p e s m args below meth c s₁ Bd hml0 hP hK
  obtain ⟨rfl, hZ, hh⟩ := hP
  have hx := Bd.exec
  have hby := Bd.bytes
  have hml : c.maxLocals = 7 := hml0
  have hown : s.vm.findClass zs2 = some m.cls := findClass_of_methodNamed Bd.named
  have hnm := (name_of_methodNamed Bd.named Bd.method).1
  have X0 : Stand p l e ({ frames := 2, cells := 0, slots := 0, locals := 36 } : Room) s m #[(.ref a1), (.long q2), .null] below meth c s₁ [] 0 0 := Stand.of_body Bd
  have e0 : s₁.heap = h0 := by rw [← hh, Bd.state]; rfl
  have N0 := Fr.nil n0
  refine own_pre (g' := mkF m 0 (lc10 a1 q2) []) (ef_7 m a1 q2) ?_
  obtain ⟨_, T3, L3, X3, hQ3, st3⟩ := ocallP X0 hx hZ zm5 hown (ww hw 39 rfl) (ww hw 40 rfl) (own_selP (mvT hZ (ww hw 10 rfl)) (mvP hZ (ww hw 41 rfl)) (mvT hZ (ww hw 40 rfl)) (by decide)) (ww hw 41 rfl) (by decide) (ww hw 42 rfl) (ww hw 11 rfl) e0 F7 (mg6_40 l Z a0 hw [] a1 q2 a4 a9 q11 kc12 h0 n0 Z0 F5 F6 F7 F8 F10 F13 hc14 hc15 hc16 hc17) (st := [.null, (.long q2), (.ref a1)]) rfl 0 rfl (by decide) (pc := 3) (Ls := (lc10 a1 q2)) hml rfl (lenOf pd_4 rfl) d5_3 hby
  obtain ⟨rfl, N3q, e3⟩ := hQ3
  have N18 := Fr.app N0 N3q
  refine own_go (U' := T3.setTop (mkF m 10 (lc20 a1 q2 0) [(.int 0)])) (fun t k => oaloadN X0 hx hby d5_0 rfl rfl (olloadN X0 hx hby d5_1 rfl (oaloadN X0 hx hby d5_2 rfl rfl (st3 _ (oistore X3 hx hby d5_6 (lc20 a1 q2 0) rfl (oiload X3 hx hby d5_8 rfl k)))))) ?_
  obtain ⟨T21, X21, e21, st21⟩ := getF X3 hx hZ hown (host := "") (Or.inl (ww hw 20 rfl)) Via.refl e3 F20 (g := (mkF m 14 (lc20 a1 q2 0) [(.ref a1)])) rfl rfl (hb hby d5_14)
  obtain ⟨cl25, Ar25, q25, S25, N25, H25, G25⟩ := id F24
  have hin26 : ¬ ((0 : Int32) < 0 ∨ cl25.slots.size ≤ ((0 : Int32)).toNatClampNeg) := inb_of S25 ⟨by decide, by decide⟩
  have hat26 : cl25.slots[((0 : Int32)).toNatClampNeg]? = some (.ref a22) := Has.at H25 hin26 rfl
  obtain ⟨_, T27, L27, X27, hQ27, st27⟩ := ocallV X21 hx hZ zm9 zm9 hown (ww hw 72 rfl) (ww hw 73 rfl) (notFace_of_selects (args := #[]) (mvT hZ (ww hw 75 rfl))) (ww hw 75 rfl) (ww hw 74 rfl) (by decide) (ww hw 76 rfl) (ww hw 59 rfl) e21 F28 (rm11_27 l Z a0 hw [] a22 h0 n0 Z0 F29) (st := [(.ref a22)]) rfl 0 rfl (by decide) (pc := 20) (Ls := (lc20 a1 q2 0)) hml rfl (lenOf pd_8 rfl) d5_20 hby
  obtain ⟨rfl, N27q, e27⟩ := hQ27
  have N30 := Fr.app N18 N27q
  refine own_go (U' := T27.setTop (mkF m 23 (lc20 a1 q2 0) [(.int 1)])) (fun t k => oifN X3 hx hby d5_10 (by decide) (oaloadN X3 hx hby d5_13 rfl rfl (st21 _ (oiload X21 hx hby d5_17 rfl (X21.aaload hx (j := (0 : Int32)) (v := (.ref a22)) (by rw [e21]; exact Ar25.1) (State.isArrayOf_alike hZ.alike Ar25.2.1) rfl Ar25.2.2 hin26 hat26 (g := (mkF m 19 (lc20 a1 q2 0) [(.int 0), (.ref a19)])) rfl rfl (hb hby d5_19) _ (st27 _ k)))))) ?_
  obtain ⟨T32, X32, e32, st32⟩ := getF X27 hx hZ hown (host := "") (Or.inl (ww hw 79 rfl)) Via.refl e27 F31 (g := (mkF m 28 (lc20 a1 q2 0) [(.ref a1), (.ref a1)])) rfl rfl (hb hby d5_28)
  refine own_go (U' := T32.setTop (mkF m 33 (lc20 a1 q2 0) [(.int ((0 : Int32) - (1 : Int32))), (.ref a1)])) (fun t k => oifN X27 hx hby d5_23 (by decide) (oaloadN X27 hx hby d5_26 rfl rfl (odup X27 hx hby d5_27 rfl (st32 _ (oiconst X32 hx hby d5_31 (oisub X32 hx hby d5_32 k)))))) ?_
  rw [show ((0 : Int32) - (1 : Int32)) = (-1 : Int32) from by decide]
  obtain ⟨T33, h33, X33, e33, W33, st33⟩ := putF X32 hx hZ hown (host := "") (Or.inl (ww hw 79 rfl)) Via.refl e32 F31 F7 (Or.inl (ww hw 80 rfl)) (ww hw 10 rfl) (ty := .int) (by decide) rfl rfl (g := (mkF m 33 (lc20 a1 q2 0) [(.int (-1)), (.ref a1)])) rfl rfl (hb hby d5_33)
  have N35 := Fr.snoc X33 N30 g34
  have f36 : Fld Z h33 a1 zs2 "emptyLevels" "I" (.int (-1)) := Fld.same W33 F31
  have f37 : Fld Z h33 a1 zs2 "levels" zs3 (.ref a19) := (Fld.other W33 F20 (Or.inr (slot_ne (Or.inl (ww hw 21 rfl)) (Or.inl (ww hw 80 rfl)) (by decide) (t := (.array (.object zs1))) (t' := .int) (by decide) (by decide))))
  obtain ⟨T38, X38, e38, st38⟩ := getF X33 hx hZ hown (host := "") (Or.inl (ww hw 20 rfl)) Via.refl e33 f37 (g := (mkF m 37 (lc20 a1 q2 0) [(.ref a1)])) rfl rfl (hb hby d5_37)
  have f40 : Arv Z h33 a19 kc23 (.object zs1) (16 : Int32) [(.ref a22)] .null := (F24.other W33 ne39)
  obtain ⟨cl41, Ar41, q41, S41, N41, H41, G41⟩ := id f40
  have hin42 : ¬ ((0 : Int32) < 0 ∨ cl41.slots.size ≤ ((0 : Int32)).toNatClampNeg) := inb_of S41 ⟨by decide, by decide⟩
  have hat42 : cl41.slots[((0 : Int32)).toNatClampNeg]? = some (.ref a22) := Has.at H41 hin42 rfl
  refine own_go (U' := T38.setTop (mkF m 43 (lc20 a1 q2 0) [(.ref a22)])) (fun t k => st33 _ (oaloadN X33 hx hby d5_36 rfl rfl (st38 _ (oiload X38 hx hby d5_40 rfl (X38.aaload hx (j := (0 : Int32)) (v := (.ref a22)) (by rw [e38]; exact Ar41.1) (State.isArrayOf_alike hZ.alike Ar41.2.1) rfl Ar41.2.2 hin42 hat42 (g := (mkF m 42 (lc20 a1 q2 0) [(.int 0), (.ref a19)])) rfl rfl (hb hby d5_42) _ k))))) ?_
  have f43 : Fld Z h33 a1 zs2 "side" zs4 (.ref a4) := (Fld.other W33 F5 (Or.inr (slot_ne (Or.inr (ww hw 26 rfl)) (Or.inl (ww hw 80 rfl)) (by decide) (t := (.object zs6)) (t' := .int) (by decide) (by decide))))
  have f44 : Fld Z h33 a1 zs2 "count" "I" (.int 1) := (Fld.other W33 F8 (Or.inr (slot_ne (Or.inl (ww hw 33 rfl)) (Or.inl (ww hw 80 rfl)) (by decide) (t := .int) (t' := .int) (by decide) (by decide))))
  have f45 : Fld Z h33 a1 zs2 "ranks" "[J" (.ref a9) := (Fld.other W33 F10 (Or.inr (slot_ne (Or.inl (ww hw 24 rfl)) (Or.inl (ww hw 80 rfl)) (by decide) (t := (.array .long)) (t' := .int) (by decide) (by decide))))
  obtain ⟨fs, hr, hrun, hended, hW, hsame⟩ := X38.leave (v := some (.ref a22)) (fun h => by rw [Bd.returns] at h; cases h)
  refine own_out ⟨_, _, ?_, hrun, hended, _, _, rfl, ?_, ⟨_, rfl⟩, hW, hsame.mono (by decide) (by decide)⟩
  · exact retOut X38 hx Bd.returns rfl (Or.inr (Or.inr (Or.inr (Or.inr ⟨rfl, rfl, rfl⟩)))) (hb hby d5_43) hr
  · show Q5_41 Z a1 q2 a4 a9 q11 kc12 a19 a22 kc23 h0 n0 _ T38.heap _
    rw [e38]
    exact ⟨rfl, N35, ((Keep.refl h0 [a1]).wr W33 (Or.inl (List.mem_of_getElem? (i := 0) rfl))), f43, f44, f45, f37, f36⟩
def Q5_42 (Z : State) (a1 : Addr) (q2 : Int64) (a4 : Addr) (a9 : Addr) (q11 : Int64) (kc12 : ClassId) (a19 : Addr) (a22 : Addr) (kc23 : ClassId) (h0 : Heap) (n0 : Nat) (v : Option Value) (h : Heap) (L : List Loc) : Prop := ∃ b46 : Addr, v = some (.ref b46) ∧ Fr n0 L ∧ Keep h0 h [a19, a9, a1] ∧ h0.size ≤ b46 ∧ Arv Z h a19 kc23 (.object zs1) (16 : Int32) [(.ref a22), (.ref b46)] .null ∧ Arv Z h a9 kc12 .long (16 : Int32) [(.long q11), (.long q2)] (.long (0 : Int64)) ∧ Fld Z h a1 zs2 "side" zs4 (.ref a4) ∧ Fld Z h a1 zs2 "count" "I" (.int 2) ∧ Fld Z h a1 zs2 "ranks" "[J" (.ref a9) ∧ Fld Z h a1 zs2 "levels" zs3 (.ref a19) ∧ Fld Z h a1 zs2 "emptyLevels" "I" (.int (-1)) ∧ Exa Z h b46 zs1 ∧ Fld Z h b46 zs1 "price" zs10 .null ∧ Fld Z h b46 zs1 "priceSteps" "J" (.long q2) ∧ Fld Z h b46 zs1 "first" zs11 .null
set_option maxRecDepth 65536 in
set_option maxHeartbeats 40000000 in
theorem rm5_42 (l : Launch) (Z : State) (a0 : Array Value) (hw : ∀ d ∈ tables_1, d.before a0 Z = true) (ws : List Jvm.Cond) (a1 : Addr) (q2 : Int64) (a4 : Addr) (a9 : Addr) (q11 : Int64) (kc12 : ClassId) (a19 : Addr) (a22 : Addr) (kc23 : ClassId) (h0 : Heap) (n0 : Nat) (Z0 : n0 ≤ h0.size) (F5 : Fld Z h0 a1 zs2 "side" zs4 (.ref a4)) (F6 : Sta Z h0 zs6 "BUY" zs4 (.ref a4)) (F7 : Exa Z h0 a1 zs2) (F8 : Fld Z h0 a1 zs2 "count" "I" (.int 1)) (F10 : Fld Z h0 a1 zs2 "ranks" "[J" (.ref a9)) (F13 : Arv Z h0 a9 kc12 .long (16 : Int32) [(.long q11)] (.long (0 : Int64))) (hc14 : q11 < q2) (hc15 : ¬ (q2 = (-9223372036854775808 : Int64))) (hc16 : ¬ (q2 = (9223372036854775807 : Int64))) (F20 : Fld Z h0 a1 zs2 "levels" zs3 (.ref a19)) (F24 : Arv Z h0 a19 kc23 (.object zs1) (16 : Int32) [(.ref a22)] .null) (g31 : n0 ≤ a19) (O32 : Ovr Z kc23 zs1) (ne34 : a1 ≠ a19) (ne41 : a9 ≠ a19) (g44 : n0 ≤ a9) (ne56 : a1 ≠ a9) (F82 : Fld Z h0 a1 zs2 "emptyLevels" "I" (.int (-1))) (g85 : n0 ≤ a1) :
    MetFree l zm7 (head1 (Jvm.Cond.code zm7 prog_2_method_5_code 7 (some (.object zs1)) :: ws) ({ frames := 2, cells := 1, slots := 4, locals := 36 } : Room)) (fun a U => a = #[(.ref a1), (.long q2), .null] ∧ Z.Warmed39 U.vm ∧ U.heap = h0) (fun _ _ _ _ _ => True) (fun _ U o U' => ∃ v L, o = .returned v ∧ Q5_42 Z a1 q2 a4 a9 q11 kc12 a19 a22 kc23 h0 n0 v U'.heap L ∧ FrameEnd U o U' L ({ frames := 2, cells := 1, slots := 4, locals := 36 } : Room).cells ({ frames := 2, cells := 1, slots := 4, locals := 36 } : Room).slots) := by
  refine MetFree.of_bodySF (plainFor_of_name pn_com_example_srok_srok_engine_BookSide) hisR ?_
  intro p e s m args below meth c s₁ Bd hml0 hP hK
  obtain ⟨rfl, hZ, hh⟩ := hP
  have hx := Bd.exec
  have hby := Bd.bytes
  have hml : c.maxLocals = 7 := hml0
  have hown : s.vm.findClass zs2 = some m.cls := findClass_of_methodNamed Bd.named
  have hnm := (name_of_methodNamed Bd.named Bd.method).1
  have X0 : Stand p l e ({ frames := 2, cells := 1, slots := 4, locals := 36 } : Room) s m #[(.ref a1), (.long q2), .null] below meth c s₁ [] 0 0 := Stand.of_body Bd
  have e0 : s₁.heap = h0 := by rw [← hh, Bd.state]; rfl
  have N0 := Fr.nil n0
  refine own_pre (g' := mkF m 0 (lc10 a1 q2) []) (ef_7 m a1 q2) ?_
  obtain ⟨_, T3, L3, X3, hQ3, st3⟩ := ocallP X0 hx hZ zm5 hown (ww hw 39 rfl) (ww hw 40 rfl) (own_selP (mvT hZ (ww hw 10 rfl)) (mvP hZ (ww hw 41 rfl)) (mvT hZ (ww hw 40 rfl)) (by decide)) (ww hw 41 rfl) (by decide) (ww hw 42 rfl) (ww hw 11 rfl) e0 F7 (mg6_16 l Z a0 hw [] a1 q2 a4 a9 q11 kc12 h0 n0 Z0 F5 F6 F7 F8 F10 F13 hc14 hc15 hc16) (st := [.null, (.long q2), (.ref a1)]) rfl 0 rfl (by decide) (pc := 3) (Ls := (lc10 a1 q2)) hml rfl (lenOf pd_4 rfl) d5_3 hby
  obtain ⟨rfl, N3q, e3⟩ := hQ3
  have N17 := Fr.app N0 N3q
  refine own_go (U' := T3.setTop (mkF m 10 (lc20 a1 q2 (-2)) [(.int (-2))])) (fun t k => oaloadN X0 hx hby d5_0 rfl rfl (olloadN X0 hx hby d5_1 rfl (oaloadN X0 hx hby d5_2 rfl rfl (st3 _ (oistore X3 hx hby d5_6 (lc20 a1 q2 (-2)) rfl (oiload X3 hx hby d5_8 rfl k)))))) ?_
  refine own_go (U' := T3.setTop (mkF m 47 (lc20 a1 q2 (-2)) [(.int (-(-2 : Int32)))])) (fun t k => oifY (pc := 10) X3 hx hby d5_10 44 (by decide) (by decide) (oiload X3 hx hby d5_44 rfl (oineg X3 hx hby d5_46 k))) ?_
  rw [show (-(-2 : Int32)) = (2 : Int32) from by decide]
  obtain ⟨T18, X18, e18, st18⟩ := getF X3 hx hZ hown (host := "") (Or.inl (ww hw 32 rfl)) Via.refl e3 F8 (g := (mkF m 52 (lc21 a1 q2 (-2) 1) [(.ref a1)])) rfl rfl (hb hby d5_52)
  obtain ⟨T21, X21, e21, st21⟩ := getF X18 hx hZ hown (host := "") (Or.inl (ww hw 20 rfl)) Via.refl e18 F20 (g := (mkF m 56 (lc21 a1 q2 (-2) 1) [(.ref a1), (.int 1)])) rfl rfl (hb hby d5_56)
  refine own_go (U' := T21.setTop (mkF m 59 (lc21 a1 q2 (-2) 1) [(.ref a19), (.int 1)])) (fun t k => oiconst X3 hx hby d5_47 (oisub X3 hx hby d5_48 (oistore X3 hx hby d5_49 (lc21 a1 q2 (-2) 1) rfl (oaloadN X3 hx hby d5_51 rfl rfl (st18 _ (oaloadN X18 hx hby d5_55 rfl rfl (st21 _ k))))))) ?_
  obtain ⟨cl25, Ar25, q25, S25, N25, H25, G25⟩ := id F24
  refine own_go (fun t k => X21.arraylength hx (by rw [e21]; exact Ar25.1) (State.isArrayOf_alike hZ.alike Ar25.2.1) (g := (mkF m 59 (lc21 a1 q2 (-2) 1) [(.ref a19), (.int 1)])) rfl rfl (hb hby d5_59) _ k) ?_
  rw [len_of S25 N25]
  obtain ⟨T26, X26, e26, st26⟩ := getF X21 hx hZ hown (host := "") (Or.inl (ww hw 20 rfl)) Via.refl e21 F20 (g := (mkF m 101 (lc21 a1 q2 (-2) 1) [(.ref a1)])) rfl rfl (hb hby d5_101)
  obtain ⟨T27, X27, e27, st27⟩ := getF X26 hx hZ hown (host := "") (Or.inl (ww hw 20 rfl)) Via.refl e26 F20 (g := (mkF m 107 (lc21 a1 q2 (-2) 1) [(.ref a1), (.int 1), (.ref a19)])) rfl rfl (hb hby d5_107)
  obtain ⟨T28, X28, e28, st28⟩ := getF X27 hx hZ hown (host := "") (Or.inl (ww hw 32 rfl)) Via.refl e27 F8 (g := (mkF m 115 (lc21 a1 q2 (-2) 1) [(.ref a1), (.int 2), (.ref a19), (.int 1), (.ref a19)])) rfl rfl (hb hby d5_115)
  have f30 : Arv Z h0 a19 kc23 (.object zs1) (16 : Int32) [(.ref a22), .null] .null := F24.pad (pad_rep [(.ref a22)] .null 1)
  obtain ⟨cl29, Ar29, q29, -⟩ := id f30
  obtain ⟨T29, h29, L29, X29, e29, N29, K29, V29, st29⟩ := cpA X28 hx hZ hown (ww hw 54 rfl) (ww hw 57 rfl) (ww hw 55 rfl) (ww hw 56 rfl) e28 (us := []) f30 f30 (Or.inr ⟨rfl, rfl, trivial⟩) (by decide) (by decide) (by decide) (by decide) (by decide) rfl (Nat.le_of_ble_eq_true rfl) N17 g31 (g := (mkF m 121 (lc21 a1 q2 (-2) 1) [(.int 0), (.int 2), (.ref a19), (.int 1), (.ref a19)])) rfl (by rw [hml]; rfl) rfl (hb hby d5_121) (by decide) (W := 0) (by show 2 * 0 + _ ≤ _; exact Nat.le_of_eq rfl) (by decide)
  have f33 : Arv Z h29 a19 kc23 (.object zs1) (16 : Int32) [(.ref a22), .null] .null := V29
  have f35 : Fld Z h29 a1 zs2 "ranks" "[J" (.ref a9) := (F10.keep K29 (ninS ne34 nin0))
  obtain ⟨T36, X36, e36, st36⟩ := getF X29 hx hZ hown (host := "") (Or.inl (ww hw 23 rfl)) Via.refl e29 f35 (g := (mkF m 125 (lc21 a1 q2 (-2) 1) [(.ref a1)])) rfl rfl (hb hby d5_125)
  obtain ⟨T37, X37, e37, st37⟩ := getF X36 hx hZ hown (host := "") (Or.inl (ww hw 23 rfl)) Via.refl e36 f35 (g := (mkF m 131 (lc21 a1 q2 (-2) 1) [(.ref a1), (.int 1), (.ref a9)])) rfl rfl (hb hby d5_131)
  have f38 : Fld Z h29 a1 zs2 "count" "I" (.int 1) := (F8.keep K29 (ninS ne34 nin0))
  obtain ⟨T39, X39, e39, st39⟩ := getF X37 hx hZ hown (host := "") (Or.inl (ww hw 32 rfl)) Via.refl e37 f38 (g := (mkF m 139 (lc21 a1 q2 (-2) 1) [(.ref a1), (.int 2), (.ref a9), (.int 1), (.ref a9)])) rfl rfl (hb hby d5_139)
  have f42 : Arv Z h29 a9 kc12 .long (16 : Int32) [(.long q11)] (.long (0 : Int64)) := (F13.keep K29 (ninS ne41 nin0))
  have f43 : Arv Z h29 a9 kc12 .long (16 : Int32) [(.long q11), (.long 0)] (.long (0 : Int64)) := f42.pad (pad_rep [(.long q11)] (.long (0 : Int64)) 1)
  obtain ⟨T40, h40, L40, X40, e40, N40, K40, V40, st40⟩ := cpA X39 hx hZ hown (ww hw 54 rfl) (ww hw 57 rfl) (ww hw 55 rfl) (ww hw 56 rfl) e39 (us := []) f43 f43 (Or.inl ⟨rfl, rfl⟩) (by decide) (by decide) (by decide) (by decide) (by decide) rfl (Nat.le_of_ble_eq_true rfl) N29 g44 (g := (mkF m 145 (lc21 a1 q2 (-2) 1) [(.int 0), (.int 2), (.ref a9), (.int 1), (.ref a9)])) rfl (by rw [hml]; rfl) rfl (hb hby d5_145) (by decide) (W := 0) (by show 2 * 0 + _ ≤ _; exact Nat.le_of_eq rfl) (by decide)
  have f45 : Arv Z h40 a9 kc12 .long (16 : Int32) [(.long q11), (.long 0)] (.long (0 : Int64)) := V40
  obtain ⟨T46, h46, X46, e46, E46, A46, D46, -, st46⟩ := newO X40 hx hZ hown (ww hw 18 rfl) (ww hw 58 rfl) (ww hw 59 rfl) e40 (g := (mkF m 148 (lc21 a1 q2 (-2) 1) [])) rfl (hb hby d5_148) (by decide) (by decide)
  obtain ⟨b46, g46⟩ : ∃ z, z = h40.size := ⟨_, rfl⟩
  rw [← g46] at A46 D46 st46
  have f47 : Fld Z h46 b46 zs1 "price" zs10 .null := D46 (Or.inr (ww hw 65 rfl)) (ty := (.object zs13)) (by decide)
  have f48 : Fld Z h46 b46 zs1 "priceSteps" "J" (.long 0) := D46 (Or.inr (ww hw 67 rfl)) (ty := .long) (by decide)
  have f49 : Fld Z h46 b46 zs1 "first" zs11 .null := D46 (Or.inl (ww hw 78 rfl)) (ty := (.object zs14)) (by decide)
  have Z_1 : n0 ≤ h29.size := Nat.le_trans Z0 K29.1
  have Z_2 : n0 ≤ h40.size := Nat.le_trans Z_1 K40.1
  have g51 : n0 ≤ b46 := Nat.le_trans Z_2 (Nat.le_of_eq g46.symm)
  have Z_3 : n0 ≤ h46.size := Nat.le_trans Z_2 E46.1
  obtain ⟨_, T50, L50, X50, hQ50, st50⟩ := ocallI X46 hx hZ zm6 rfl hown (ww hw 60 rfl) (ww hw 61 rfl) (by decide) (ww hw 62 rfl) (ww hw 59 rfl) e46 (rm9_10 l Z a0 hw [] b46 q2 h46 n0 Z_3 f47 f48 f49 A46 g51) (st := [(.long q2), .null, (.ref b46), (.ref b46)]) rfl 1 rfl (by decide) (pc := 154) (Ls := (lc21 a1 q2 (-2) 1)) hml rfl (lenOf pd_5 rfl) d5_154 hby
  obtain ⟨rfl, N50q, K50, f52, f53, f54⟩ := hQ50
  have N55 := Fr.app N40 N50q
  have ne57 : a1 ≠ b46 := Nat.ne_of_lt (Nat.lt_of_lt_of_le (Nat.lt_of_lt_of_le (Nat.lt_of_lt_of_le (F5.lt) K29.1) K40.1) (Nat.le_of_eq g46.symm))
  have f58 : Fld Z T50.heap a1 zs2 "levels" zs3 (.ref a19) := ((Fld.ext E46 ((F20.keep K29 (ninS ne34 nin0)).keep K40 (ninS ne56 nin0))).keep K50 (ninS ne57 nin0))
  obtain ⟨T59, X59, e59, st59⟩ := getF X50 hx hZ hown (host := "") (Or.inl (ww hw 20 rfl)) Via.refl rfl f58 (g := (mkF m 160 (lc23 a1 q2 (-2) 1 b46) [(.ref a1)])) rfl rfl (hb hby d5_160)
  have ne60 : a19 ≠ b46 := Nat.ne_of_lt (Nat.lt_of_lt_of_le (Nat.lt_of_lt_of_le (f33.lt) K40.1) (Nat.le_of_eq g46.symm))
  have f61 : Arv Z T50.heap a19 kc23 (.object zs1) (16 : Int32) [(.ref a22), .null] .null := (((f33.keep K40 (ninS (Ne.symm ne41) nin0)).ext E46).keep K50 (ninS ne60 nin0))
  have f62 : Exa Z T50.heap b46 zs1 := (A46.keep K50)
  obtain ⟨cl63, Ar63, q63, S63, N63, H63, G63⟩ := id f61
  have hin64 : ¬ ((1 : Int32) < 0 ∨ cl63.slots.size ≤ ((1 : Int32)).toNatClampNeg) := inb_of S63 ⟨by decide, by decide⟩
  obtain ⟨T64, h64, X64, e64, W64, st64⟩ := stR X59 hx hZ e59 Ar63 (j := (1 : Int32)) hin64 rfl (Sto.ofV Ar63 q63 O32 (Ins.self f62)) (g := (mkF m 167 (lc23 a1 q2 (-2) 1 b46) [(.ref b46), (.int 1), (.ref a19)])) rfl rfl (hb hby d5_167)
  have N65 := Fr.snoc X64 N55 g31
  have f66 : Arv Z h64 a19 kc23 (.object zs1) (16 : Int32) [(.ref a22), (.ref b46)] .null := Arv.set Ar63 q63 S63 N63 H63 G63 (by rfl) W64 1 rfl (Nat.le_of_ble_eq_true rfl)
  have f67 : Fld Z h64 a1 zs2 "ranks" "[J" (.ref a9) := (Fld.other W64 ((Fld.ext E46 (f35.keep K40 (ninS ne56 nin0))).keep K50 (ninS ne57 nin0)) (Or.inl ne34))
  obtain ⟨T68, X68, e68, st68⟩ := getF X64 hx hZ hown (host := "") (Or.inl (ww hw 23 rfl)) Via.refl e64 f67 (g := (mkF m 169 (lc23 a1 q2 (-2) 1 b46) [(.ref a1)])) rfl rfl (hb hby d5_169)
  have f70 : Fld Z h64 a1 zs2 "side" zs4 (.ref a4) := (Fld.other W64 ((Fld.ext E46 ((F5.keep K29 (ninS ne34 nin0)).keep K40 (ninS ne56 nin0))).keep K50 (ninS ne57 nin0)) (Or.inl ne34))
  have f71 : Sta Z h64 zs6 "BUY" zs4 (.ref a4) := (Sta.wr W64 (own_staK (Sta.ext E46 (own_staK (own_staK F6 K29 (allS (own_nsV f30) all0)) K40 (allS (own_nsV f43) all0))) K50 (allS (own_nsF f47) all0)))
  have Z_4 : n0 ≤ T50.heap.size := Nat.le_trans Z_3 K50.1
  have Z_5 : n0 ≤ h64.size := Nat.le_trans Z_4 (Keep.of_wr W64).1
  have f72 : Exa Z h64 a1 zs2 := (Exa.wr W64 ((Exa.ext E46 ((F7.keep K29).keep K40)).keep K50))
  obtain ⟨_, T69, L69, X69, hQ69, st69⟩ := ocallP X68 hx hZ zm3 hown (ww hw 43 rfl) (ww hw 44 rfl) (own_selP (mvT hZ (ww hw 10 rfl)) (mvP hZ (ww hw 45 rfl)) (mvT hZ (ww hw 44 rfl)) (by decide)) (ww hw 45 rfl) (by decide) (ww hw 46 rfl) (ww hw 11 rfl) e68 f72 (rm7_6 l Z a0 hw [] a1 q2 a4 h64 n0 Z_5 f70 f71) (st := [(.long q2), (.ref a1), (.int 1), (.ref a9)]) rfl 2 rfl (by decide) (pc := 176) (Ls := (lc23 a1 q2 (-2) 1 b46)) hml rfl (lenOf pd_0 rfl) d5_176 hby
  obtain ⟨rfl, N69q, e69⟩ := hQ69
  have N73 := Fr.app N65 N69q
  have ne74 : a9 ≠ b46 := Nat.ne_of_lt (Nat.lt_of_lt_of_le (f45.lt) (Nat.le_of_eq g46.symm))
  have f75 : Arv Z h64 a9 kc12 .long (16 : Int32) [(.long q11), (.long 0)] (.long (0 : Int64)) := (((f45.ext E46).keep K50 (ninS ne74 nin0)).other W64 ne41)
  obtain ⟨cl76, Ar76, q76, S76, N76, H76, G76⟩ := id f75
  have hin77 : ¬ ((1 : Int32) < 0 ∨ cl76.slots.size ≤ ((1 : Int32)).toNatClampNeg) := inb_of S76 ⟨by decide, by decide⟩
  obtain ⟨T77, h77, X77, e77, W77, st77⟩ := stJ X69 hx hZ e69 Ar76 (j := (1 : Int32)) hin77 (g := (mkF m 179 (lc23 a1 q2 (-2) 1 b46) [(.long q2), (.int 1), (.ref a9)])) rfl rfl (hb hby d5_179)
  have N78 := Fr.snoc X77 N73 g44
  have f79 : Arv Z h77 a9 kc12 .long (16 : Int32) [(.long q11), (.long q2)] (.long (0 : Int64)) := Arv.set Ar76 q76 S76 N76 H76 G76 (by rfl) W77 1 rfl (Nat.le_of_ble_eq_true rfl)
  have f80 : Fld Z h77 a1 zs2 "count" "I" (.int 1) := (Fld.other W77 (Fld.other W64 ((Fld.ext E46 (f38.keep K40 (ninS ne56 nin0))).keep K50 (ninS ne57 nin0)) (Or.inl ne34)) (Or.inl ne56))
  obtain ⟨T81, X81, e81, st81⟩ := getF X77 hx hZ hown (host := "") (Or.inl (ww hw 32 rfl)) Via.refl e77 f80 (g := (mkF m 182 (lc23 a1 q2 (-2) 1 b46) [(.ref a1), (.ref a1)])) rfl rfl (hb hby d5_182)
  have f83 : Exa Z h77 a1 zs2 := (Exa.wr W77 f72)
  obtain ⟨T84, h84, X84, e84, W84, st84⟩ := putF X81 hx hZ hown (host := "") (Or.inl (ww hw 32 rfl)) Via.refl e81 f80 f83 (Or.inl (ww hw 33 rfl)) (ww hw 10 rfl) (ty := .int) (by decide) rfl rfl (g := (mkF m 187 (lc23 a1 q2 (-2) 1 b46) [(.int 2), (.ref a1)])) rfl rfl (hb hby d5_187)
  have N86 := Fr.snoc X84 N78 g85
  have f87 : Fld Z h84 a1 zs2 "count" "I" (.int 2) := Fld.same W84 f80
  refine own_go (U' := T84.setTop (mkF m 192 (lc23 a1 q2 (-2) 1 b46) [(.ref b46)])) (fun t k => oicY (pc := 60) X21 hx hby d5_60 100 (by decide) (by decide) (oaloadN X21 hx hby d5_100 rfl rfl (st26 _ (oiload X26 hx hby d5_104 rfl (oaloadN X26 hx hby d5_106 rfl rfl (st27 _ (oiload X27 hx hby d5_110 rfl (oiconst X27 hx hby d5_112 (oiadd X27 hx hby d5_113 (oaloadN X27 hx hby d5_114 rfl rfl (st28 _ (oiload X28 hx hby d5_118 rfl (oisub X28 hx hby d5_120 (st29 _ (oaloadN X29 hx hby d5_124 rfl rfl (st36 _ (oiload X36 hx hby d5_128 rfl (oaloadN X36 hx hby d5_130 rfl rfl (st37 _ (oiload X37 hx hby d5_134 rfl (oiconst X37 hx hby d5_136 (oiadd X37 hx hby d5_137 (oaloadN X37 hx hby d5_138 rfl rfl (st39 _ (oiload X39 hx hby d5_142 rfl (oisub X39 hx hby d5_144 (st40 _ (st46 _ (odup X46 hx hby d5_151 rfl (oaloadN X46 hx hby d5_152 rfl rfl (olloadN X46 hx hby d5_153 rfl (st50 _ (oastore X50 hx hby d5_157 (lc23 a1 q2 (-2) 1 b46) rfl rfl (oaloadN X50 hx hby d5_159 rfl rfl (st59 _ (oiload X59 hx hby d5_163 rfl (oaload X59 hx hby d5_165 rfl rfl (st64 _ (oaloadN X64 hx hby d5_168 rfl rfl (st68 _ (oiload X68 hx hby d5_172 rfl (oaloadN X68 hx hby d5_174 rfl rfl (olloadN X68 hx hby d5_175 rfl (st69 _ (st77 _ (oaloadN X77 hx hby d5_180 rfl rfl (odup X77 hx hby d5_181 rfl (st81 _ (oiconst X81 hx hby d5_185 (oiadd X81 hx hby d5_186 (st84 _ (oaload X84 hx hby d5_190 rfl rfl k)))))))))))))))))))))))))))))))))))))))))))))))))))) ?_
  have f88 : Arv Z h84 a19 kc23 (.object zs1) (16 : Int32) [(.ref a22), (.ref b46)] .null := ((f66.other W77 (Ne.symm ne41)).other W84 (Ne.symm ne34))
  have f89 : Arv Z h84 a9 kc12 .long (16 : Int32) [(.long q11), (.long q2)] (.long (0 : Int64)) := (f79.other W84 (Ne.symm ne56))
  have f90 : Fld Z h84 a1 zs2 "side" zs4 (.ref a4) := (Fld.other W84 (Fld.other W77 f70 (Or.inl ne56)) (Or.inr (slot_ne (Or.inr (ww hw 26 rfl)) (Or.inl (ww hw 33 rfl)) (by decide) (t := (.object zs6)) (t' := .int) (by decide) (by decide))))
  have f91 : Fld Z h84 a1 zs2 "ranks" "[J" (.ref a9) := (Fld.other W84 (Fld.other W77 f67 (Or.inl ne56)) (Or.inr (slot_ne (Or.inl (ww hw 24 rfl)) (Or.inl (ww hw 33 rfl)) (by decide) (t := (.array .long)) (t' := .int) (by decide) (by decide))))
  have f92 : Fld Z h84 a1 zs2 "levels" zs3 (.ref a19) := (Fld.other W84 (Fld.other W77 (Fld.other W64 f58 (Or.inl ne34)) (Or.inl ne56)) (Or.inr (slot_ne (Or.inl (ww hw 21 rfl)) (Or.inl (ww hw 33 rfl)) (by decide) (t := (.array (.object zs1))) (t' := .int) (by decide) (by decide))))
  have f93 : Fld Z h84 a1 zs2 "emptyLevels" "I" (.int (-1)) := (Fld.other W84 (Fld.other W77 (Fld.other W64 ((Fld.ext E46 ((F82.keep K29 (ninS ne34 nin0)).keep K40 (ninS ne56 nin0))).keep K50 (ninS ne57 nin0)) (Or.inl ne34)) (Or.inl ne56)) (Or.inr (slot_ne (Or.inl (ww hw 80 rfl)) (Or.inl (ww hw 33 rfl)) (by decide) (t := .int) (t' := .int) (by decide) (by decide))))
  have f94 : Exa Z h84 b46 zs1 := (Exa.wr W84 (Exa.wr W77 (Exa.wr W64 f62)))
  have f95 : Fld Z h84 b46 zs1 "price" zs10 .null := (Fld.other W84 (Fld.other W77 (Fld.other W64 f52 (Or.inl (Ne.symm ne60))) (Or.inl (Ne.symm ne74))) (Or.inl (Ne.symm ne57)))
  have f96 : Fld Z h84 b46 zs1 "priceSteps" "J" (.long q2) := (Fld.other W84 (Fld.other W77 (Fld.other W64 f53 (Or.inl (Ne.symm ne60))) (Or.inl (Ne.symm ne74))) (Or.inl (Ne.symm ne57)))
  have f97 : Fld Z h84 b46 zs1 "first" zs11 .null := (Fld.other W84 (Fld.other W77 (Fld.other W64 f54 (Or.inl (Ne.symm ne60))) (Or.inl (Ne.symm ne74))) (Or.inl (Ne.symm ne57)))
  obtain ⟨fs, hr, hrun, hended, hW, hsame⟩ := X84.leave (v := some (.ref b46)) (fun h => by rw [Bd.returns] at h; cases h)
  refine own_out ⟨_, _, ?_, hrun, hended, _, _, rfl, ?_, ⟨_, rfl⟩, hW, hsame.mono (by decide) (by decide)⟩
  · exact retOut X84 hx Bd.returns rfl (Or.inr (Or.inr (Or.inr (Or.inr ⟨rfl, rfl, rfl⟩)))) (hb hby d5_192) hr
  · show Q5_42 Z a1 q2 a4 a9 q11 kc12 a19 a22 kc23 h0 n0 _ T84.heap _
    rw [e84]
    exact ⟨b46, rfl, N86, ((((Keep.trans ((Keep.trans (Keep.trans (Keep.refl h0 [a19, a9, a1]) K29 (allS (Or.inl (List.mem_of_getElem? (i := 0) rfl)) all0)) K40 (allS (Or.inl (List.mem_of_getElem? (i := 1) rfl)) all0)).ext E46) K50 (allS (Or.inr (Nat.le_trans K29.1 (Nat.le_trans K40.1 (Nat.le_of_eq g46.symm)))) all0)).wr W64 (Or.inl (List.mem_of_getElem? (i := 0) rfl))).wr W77 (Or.inl (List.mem_of_getElem? (i := 1) rfl))).wr W84 (Or.inl (List.mem_of_getElem? (i := 2) rfl))), (Nat.le_trans K29.1 (Nat.le_trans K40.1 (Nat.le_of_eq g46.symm))), f88, f89, f90, f87, f91, f92, f93, f94, f95, f96, f97⟩
def Q5_43 (Z : State) (a1 : Addr) (q2 : Int64) (a4 : Addr) (a9 : Addr) (q11 : Int64) (kc12 : ClassId) (a19 : Addr) (a22 : Addr) (kc23 : ClassId) (h0 : Heap) (n0 : Nat) (v : Option Value) (h : Heap) (L : List Loc) : Prop := v = some (.ref a22) ∧ Fr n0 L ∧ Keep h0 h [a1] ∧ Fld Z h a1 zs2 "side" zs4 (.ref a4) ∧ Fld Z h a1 zs2 "count" "I" (.int 1) ∧ Fld Z h a1 zs2 "ranks" "[J" (.ref a9) ∧ Fld Z h a1 zs2 "levels" zs3 (.ref a19) ∧ Fld Z h a1 zs2 "emptyLevels" "I" (.int (-2))
set_option maxRecDepth 65536 in
set_option maxHeartbeats 40000000 in
theorem rm5_43 (l : Launch) (Z : State) (a0 : Array Value) (hw : ∀ d ∈ tables_1, d.before a0 Z = true) (ws : List Jvm.Cond) (a1 : Addr) (q2 : Int64) (a4 : Addr) (a9 : Addr) (q11 : Int64) (kc12 : ClassId) (a19 : Addr) (a22 : Addr) (kc23 : ClassId) (h0 : Heap) (n0 : Nat) (Z0 : n0 ≤ h0.size) (F5 : Fld Z h0 a1 zs2 "side" zs4 (.ref a4)) (F6 : Sta Z h0 zs6 "BUY" zs4 (.ref a4)) (F7 : Exa Z h0 a1 zs2) (F8 : Fld Z h0 a1 zs2 "count" "I" (.int 1)) (F10 : Fld Z h0 a1 zs2 "ranks" "[J" (.ref a9)) (F13 : Arv Z h0 a9 kc12 .long (16 : Int32) [(.long q11)] (.long (0 : Int64))) (hc14 : ¬ (q11 < q2)) (hc15 : ¬ (q2 = (-9223372036854775808 : Int64))) (hc16 : ¬ (q2 = (9223372036854775807 : Int64))) (hc17 : q11 = q2) (F20 : Fld Z h0 a1 zs2 "levels" zs3 (.ref a19)) (F24 : Arv Z h0 a19 kc23 (.object zs1) (16 : Int32) [(.ref a22)] .null) (F28 : Exa Z h0 a22 zs1) (F29 : Fld Z h0 a22 zs1 "first" zs11 .null) (F31 : Fld Z h0 a1 zs2 "emptyLevels" "I" (.int (-1))) (g34 : n0 ≤ a1) (ne39 : a19 ≠ a1) :
    MetFree l zm7 (head1 (Jvm.Cond.code zm7 prog_2_method_5_code 7 (some (.object zs1)) :: ws) ({ frames := 2, cells := 0, slots := 0, locals := 36 } : Room)) (fun a U => a = #[(.ref a1), (.long q2), .null] ∧ Z.Warmed39 U.vm ∧ U.heap = h0) (fun _ _ _ _ _ => True) (fun _ U o U' => ∃ v L, o = .returned v ∧ Q5_43 Z a1 q2 a4 a9 q11 kc12 a19 a22 kc23 h0 n0 v U'.heap L ∧ FrameEnd U o U' L ({ frames := 2, cells := 0, slots := 0, locals := 36 } : Room).cells ({ frames := 2, cells := 0, slots := 0, locals := 36 } : Room).slots) := by
  refine MetFree.of_bodySF (plainFor_of_name pn_com_example_srok_srok_engine_BookSide) hisR ?_
  intro p e s m args below meth c s₁ Bd hml0 hP hK
  obtain ⟨rfl, hZ, hh⟩ := hP
  have hx := Bd.exec
  have hby := Bd.bytes
  have hml : c.maxLocals = 7 := hml0
  have hown : s.vm.findClass zs2 = some m.cls := findClass_of_methodNamed Bd.named
  have hnm := (name_of_methodNamed Bd.named Bd.method).1
  have X0 : Stand p l e ({ frames := 2, cells := 0, slots := 0, locals := 36 } : Room) s m #[(.ref a1), (.long q2), .null] below meth c s₁ [] 0 0 := Stand.of_body Bd
  have e0 : s₁.heap = h0 := by rw [← hh, Bd.state]; rfl
  have N0 := Fr.nil n0
  refine own_pre (g' := mkF m 0 (lc10 a1 q2) []) (ef_7 m a1 q2) ?_
  obtain ⟨_, T3, L3, X3, hQ3, st3⟩ := ocallP X0 hx hZ zm5 hown (ww hw 39 rfl) (ww hw 40 rfl) (own_selP (mvT hZ (ww hw 10 rfl)) (mvP hZ (ww hw 41 rfl)) (mvT hZ (ww hw 40 rfl)) (by decide)) (ww hw 41 rfl) (by decide) (ww hw 42 rfl) (ww hw 11 rfl) e0 F7 (mg6_40 l Z a0 hw [] a1 q2 a4 a9 q11 kc12 h0 n0 Z0 F5 F6 F7 F8 F10 F13 hc14 hc15 hc16 hc17) (st := [.null, (.long q2), (.ref a1)]) rfl 0 rfl (by decide) (pc := 3) (Ls := (lc10 a1 q2)) hml rfl (lenOf pd_4 rfl) d5_3 hby
  obtain ⟨rfl, N3q, e3⟩ := hQ3
  have N18 := Fr.app N0 N3q
  refine own_go (U' := T3.setTop (mkF m 10 (lc20 a1 q2 0) [(.int 0)])) (fun t k => oaloadN X0 hx hby d5_0 rfl rfl (olloadN X0 hx hby d5_1 rfl (oaloadN X0 hx hby d5_2 rfl rfl (st3 _ (oistore X3 hx hby d5_6 (lc20 a1 q2 0) rfl (oiload X3 hx hby d5_8 rfl k)))))) ?_
  obtain ⟨T21, X21, e21, st21⟩ := getF X3 hx hZ hown (host := "") (Or.inl (ww hw 20 rfl)) Via.refl e3 F20 (g := (mkF m 14 (lc20 a1 q2 0) [(.ref a1)])) rfl rfl (hb hby d5_14)
  obtain ⟨cl25, Ar25, q25, S25, N25, H25, G25⟩ := id F24
  have hin26 : ¬ ((0 : Int32) < 0 ∨ cl25.slots.size ≤ ((0 : Int32)).toNatClampNeg) := inb_of S25 ⟨by decide, by decide⟩
  have hat26 : cl25.slots[((0 : Int32)).toNatClampNeg]? = some (.ref a22) := Has.at H25 hin26 rfl
  obtain ⟨_, T27, L27, X27, hQ27, st27⟩ := ocallV X21 hx hZ zm9 zm9 hown (ww hw 72 rfl) (ww hw 73 rfl) (notFace_of_selects (args := #[]) (mvT hZ (ww hw 75 rfl))) (ww hw 75 rfl) (ww hw 74 rfl) (by decide) (ww hw 76 rfl) (ww hw 59 rfl) e21 F28 (rm11_27 l Z a0 hw [] a22 h0 n0 Z0 F29) (st := [(.ref a22)]) rfl 0 rfl (by decide) (pc := 20) (Ls := (lc20 a1 q2 0)) hml rfl (lenOf pd_8 rfl) d5_20 hby
  obtain ⟨rfl, N27q, e27⟩ := hQ27
  have N30 := Fr.app N18 N27q
  refine own_go (U' := T27.setTop (mkF m 23 (lc20 a1 q2 0) [(.int 1)])) (fun t k => oifN X3 hx hby d5_10 (by decide) (oaloadN X3 hx hby d5_13 rfl rfl (st21 _ (oiload X21 hx hby d5_17 rfl (X21.aaload hx (j := (0 : Int32)) (v := (.ref a22)) (by rw [e21]; exact Ar25.1) (State.isArrayOf_alike hZ.alike Ar25.2.1) rfl Ar25.2.2 hin26 hat26 (g := (mkF m 19 (lc20 a1 q2 0) [(.int 0), (.ref a19)])) rfl rfl (hb hby d5_19) _ (st27 _ k)))))) ?_
  obtain ⟨T32, X32, e32, st32⟩ := getF X27 hx hZ hown (host := "") (Or.inl (ww hw 79 rfl)) Via.refl e27 F31 (g := (mkF m 28 (lc20 a1 q2 0) [(.ref a1), (.ref a1)])) rfl rfl (hb hby d5_28)
  refine own_go (U' := T32.setTop (mkF m 33 (lc20 a1 q2 0) [(.int ((-1 : Int32) - (1 : Int32))), (.ref a1)])) (fun t k => oifN X27 hx hby d5_23 (by decide) (oaloadN X27 hx hby d5_26 rfl rfl (odup X27 hx hby d5_27 rfl (st32 _ (oiconst X32 hx hby d5_31 (oisub X32 hx hby d5_32 k)))))) ?_
  rw [show ((-1 : Int32) - (1 : Int32)) = (-2 : Int32) from by decide]
  obtain ⟨T33, h33, X33, e33, W33, st33⟩ := putF X32 hx hZ hown (host := "") (Or.inl (ww hw 79 rfl)) Via.refl e32 F31 F7 (Or.inl (ww hw 80 rfl)) (ww hw 10 rfl) (ty := .int) (by decide) rfl rfl (g := (mkF m 33 (lc20 a1 q2 0) [(.int (-2)), (.ref a1)])) rfl rfl (hb hby d5_33)
  have N35 := Fr.snoc X33 N30 g34
  have f36 : Fld Z h33 a1 zs2 "emptyLevels" "I" (.int (-2)) := Fld.same W33 F31
  have f37 : Fld Z h33 a1 zs2 "levels" zs3 (.ref a19) := (Fld.other W33 F20 (Or.inr (slot_ne (Or.inl (ww hw 21 rfl)) (Or.inl (ww hw 80 rfl)) (by decide) (t := (.array (.object zs1))) (t' := .int) (by decide) (by decide))))
  obtain ⟨T38, X38, e38, st38⟩ := getF X33 hx hZ hown (host := "") (Or.inl (ww hw 20 rfl)) Via.refl e33 f37 (g := (mkF m 37 (lc20 a1 q2 0) [(.ref a1)])) rfl rfl (hb hby d5_37)
  have f40 : Arv Z h33 a19 kc23 (.object zs1) (16 : Int32) [(.ref a22)] .null := (F24.other W33 ne39)
  obtain ⟨cl41, Ar41, q41, S41, N41, H41, G41⟩ := id f40
  have hin42 : ¬ ((0 : Int32) < 0 ∨ cl41.slots.size ≤ ((0 : Int32)).toNatClampNeg) := inb_of S41 ⟨by decide, by decide⟩
  have hat42 : cl41.slots[((0 : Int32)).toNatClampNeg]? = some (.ref a22) := Has.at H41 hin42 rfl
  refine own_go (U' := T38.setTop (mkF m 43 (lc20 a1 q2 0) [(.ref a22)])) (fun t k => st33 _ (oaloadN X33 hx hby d5_36 rfl rfl (st38 _ (oiload X38 hx hby d5_40 rfl (X38.aaload hx (j := (0 : Int32)) (v := (.ref a22)) (by rw [e38]; exact Ar41.1) (State.isArrayOf_alike hZ.alike Ar41.2.1) rfl Ar41.2.2 hin42 hat42 (g := (mkF m 42 (lc20 a1 q2 0) [(.int 0), (.ref a19)])) rfl rfl (hb hby d5_42) _ k))))) ?_
  have f43 : Fld Z h33 a1 zs2 "side" zs4 (.ref a4) := (Fld.other W33 F5 (Or.inr (slot_ne (Or.inr (ww hw 26 rfl)) (Or.inl (ww hw 80 rfl)) (by decide) (t := (.object zs6)) (t' := .int) (by decide) (by decide))))
  have f44 : Fld Z h33 a1 zs2 "count" "I" (.int 1) := (Fld.other W33 F8 (Or.inr (slot_ne (Or.inl (ww hw 33 rfl)) (Or.inl (ww hw 80 rfl)) (by decide) (t := .int) (t' := .int) (by decide) (by decide))))
  have f45 : Fld Z h33 a1 zs2 "ranks" "[J" (.ref a9) := (Fld.other W33 F10 (Or.inr (slot_ne (Or.inl (ww hw 24 rfl)) (Or.inl (ww hw 80 rfl)) (by decide) (t := (.array .long)) (t' := .int) (by decide) (by decide))))
  obtain ⟨fs, hr, hrun, hended, hW, hsame⟩ := X38.leave (v := some (.ref a22)) (fun h => by rw [Bd.returns] at h; cases h)
  refine own_out ⟨_, _, ?_, hrun, hended, _, _, rfl, ?_, ⟨_, rfl⟩, hW, hsame.mono (by decide) (by decide)⟩
  · exact retOut X38 hx Bd.returns rfl (Or.inr (Or.inr (Or.inr (Or.inr ⟨rfl, rfl, rfl⟩)))) (hb hby d5_43) hr
  · show Q5_43 Z a1 q2 a4 a9 q11 kc12 a19 a22 kc23 h0 n0 _ T38.heap _
    rw [e38]
    exact ⟨rfl, N35, ((Keep.refl h0 [a1]).wr W33 (Or.inl (List.mem_of_getElem? (i := 0) rfl))), f43, f44, f45, f37, f36⟩
def Q6_44 (Z : State) (a1 : Addr) (q2 : Int64) (a4 : Addr) (a11 : Addr) (q14 : Int64) (kc15 : ClassId) (h0 : Heap) (n0 : Nat) (v : Option Value) (h : Heap) (L : List Loc) : Prop := v = some (.int (-1)) ∧ Fr n0 L ∧ h = h0
set_option maxRecDepth 65536 in
set_option maxHeartbeats 40000000 in
theorem rm6_44 (l : Launch) (Z : State) (a0 : Array Value) (hw : ∀ d ∈ tables_1, d.before a0 Z = true) (ws : List Jvm.Cond) (a1 : Addr) (q2 : Int64) (a4 : Addr) (a11 : Addr) (q14 : Int64) (kc15 : ClassId) (h0 : Heap) (n0 : Nat) (Z0 : n0 ≤ h0.size) (F5 : Fld Z h0 a1 zs2 "side" zs4 (.ref a4)) (F6 : Sta Z h0 zs6 "BUY" zs4 (.ref a4)) (F7 : Exa Z h0 a1 zs2) (F9 : Fld Z h0 a1 zs2 "count" "I" (.int 1)) (F12 : Fld Z h0 a1 zs2 "ranks" "[J" (.ref a11)) (F16 : Arv Z h0 a11 kc15 .long (16 : Int32) [(.long q14)] (.long (0 : Int64))) (hc19 : ¬ (q14 < q2)) (hc22 : ¬ (q2 = (-9223372036854775808 : Int64))) (hc23 : ¬ (q2 = (9223372036854775807 : Int64))) (hc28 : ¬ (q14 = q2)) :
    MetFree l zm5 (head1 (Jvm.Cond.code zm5 prog_2_method_8_code 11 (some .int) :: ws) ({ frames := 1, cells := 0, slots := 0, locals := 14 } : Room)) (fun a U => a = #[(.ref a1), (.long q2), .null] ∧ Z.Warmed39 U.vm ∧ U.heap = h0) (fun _ _ _ _ _ => True) (fun _ U o U' => ∃ v L, o = .returned v ∧ Q6_44 Z a1 q2 a4 a11 q14 kc15 h0 n0 v U'.heap L ∧ FrameEnd U o U' L ({ frames := 1, cells := 0, slots := 0, locals := 14 } : Room).cells ({ frames := 1, cells := 0, slots := 0, locals := 14 } : Room).slots) := by
  refine MetFree.of_bodySF (plainFor_of_name pn_com_example_srok_srok_engine_BookSide) hisR ?_
  intro p e s m args below meth c s₁ Bd hml0 hP hK
  obtain ⟨rfl, hZ, hh⟩ := hP
  have hx := Bd.exec
  have hby := Bd.bytes
  have hml : c.maxLocals = 11 := hml0
  have hown : s.vm.findClass zs2 = some m.cls := findClass_of_methodNamed Bd.named
  have hnm := (name_of_methodNamed Bd.named Bd.method).1
  have X0 : Stand p l e ({ frames := 1, cells := 0, slots := 0, locals := 14 } : Room) s m #[(.ref a1), (.long q2), .null] below meth c s₁ [] 0 0 := Stand.of_body Bd
  have e0 : s₁.heap = h0 := by rw [← hh, Bd.state]; rfl
  have N0 := Fr.nil n0
  refine own_pre (g' := mkF m 0 (lc11 a1 q2) []) (ef_5 m a1 q2) ?_
  obtain ⟨_, T3, L3, X3, hQ3, st3⟩ := ocallP X0 hx hZ zm3 hown (ww hw 43 rfl) (ww hw 44 rfl) (own_selP (mvT hZ (ww hw 10 rfl)) (mvP hZ (ww hw 45 rfl)) (mvT hZ (ww hw 44 rfl)) (by decide)) (ww hw 45 rfl) (by decide) (ww hw 46 rfl) (ww hw 11 rfl) e0 F7 (rm7_6 l Z a0 hw [] a1 q2 a4 h0 n0 Z0 F5 F6) (st := [(.long q2), (.ref a1)]) rfl 0 rfl (by decide) (pc := 2) (Ls := (lc11 a1 q2)) hml rfl (lenOf pd_0 rfl) d6_2 hby
  obtain ⟨rfl, N3q, e3⟩ := hQ3
  have N8 := Fr.app N0 N3q
  obtain ⟨T10, X10, e10, st10⟩ := getF X3 hx hZ hown (host := "") (Or.inl (ww hw 32 rfl)) Via.refl e3 F9 (g := (mkF m 8 (lc13 a1 q2 q2) [(.ref a1)])) rfl rfl (hb hby d6_8)
  refine own_go (U' := T10.setTop (mkF m 21 (lc15 a1 q2 q2 1 1) [(.int 0)])) (fun t k => oaloadN X0 hx hby d6_0 rfl rfl (olloadN X0 hx hby d6_1 rfl (st3 _ (olstore X3 hx hby d6_5 (lc13 a1 q2 q2) rfl (oaloadN X3 hx hby d6_7 rfl rfl (st10 _ (oistore X10 hx hby d6_11 (lc14 a1 q2 q2 1) rfl (oiconst X10 hx hby d6_13 (oistore X10 hx hby d6_14 (lc15 a1 q2 q2 1 1) rfl (oiload X10 hx hby d6_16 rfl (oiload X10 hx hby d6_18 rfl (oisub X10 hx hby d6_20 k)))))))))))) ?_
  obtain ⟨T13, X13, e13, st13⟩ := getF X10 hx hZ hown (host := "") (Or.inl (ww hw 23 rfl)) Via.refl e10 F12 (g := (mkF m 25 (lc15 a1 q2 q2 1 1) [(.ref a1)])) rfl rfl (hb hby d6_25)
  obtain ⟨cl17, Ar17, q17, S17, N17, H17, G17⟩ := id F16
  have hin18 : ¬ ((0 : Int32) < 0 ∨ cl17.slots.size ≤ ((0 : Int32)).toNatClampNeg) := inb_of S17 ⟨by decide, by decide⟩
  have hat18 : cl17.slots[((0 : Int32)).toNatClampNeg]? = some (.long q14) := Has.at H17 hin18 rfl
  refine own_go (U' := T13.setTop (mkF m 37 (lc15 a1 q2 q2 1 1) [(.int (lcmpW q14 q2))])) (fun t k => oifN X10 hx hby d6_21 (by decide) (oaloadN X10 hx hby d6_24 rfl rfl (st13 _ (oiload X13 hx hby d6_28 rfl (oiload X13 hx hby d6_30 rfl (oisub X13 hx hby d6_32 (X13.laload hx (j := (0 : Int32)) (v := (.long q14)) (by rw [e13]; exact Ar17.1) (State.isArrayOf_alike hZ.alike Ar17.2.1) Ar17.2.2 hin18 hat18 (g := (mkF m 33 (lc15 a1 q2 q2 1 1) [(.int 0), (.ref a11)])) rfl rfl (hb hby d6_33) _ (olload X13 hx hby d6_34 rfl (olcmp X13 hx hby d6_36 k))))))))) ?_
  refine own_go (U' := T13.setTop (mkF m 16 (lc15 a1 q2 q2 0 2) [])) (fun t k => oifN X13 hx hby d6_37 (own_ll_lt_f hc19) (oiload X13 hx hby d6_40 rfl (oiload X13 hx hby d6_42 rfl (oisub X13 hx hby d6_44 (oistore X13 hx hby d6_45 (lc15 a1 q2 q2 0 1) rfl (oiload X13 hx hby d6_47 rfl (oiconst X13 hx hby d6_49 (oimul X13 hx hby d6_50 (oistore X13 hx hby d6_51 (lc15 a1 q2 q2 0 2) rfl (ogoto (pc := 53) X13 hx hby d6_53 16 (by decide) k)))))))))) ?_
  refine own_go (U' := T13.setTop (mkF m 21 (lc15 a1 q2 q2 0 2) [(.int ((0 : Int32) - (2 : Int32)))])) (fun t k => oiload X13 hx hby d6_16 rfl (oiload X13 hx hby d6_18 rfl (oisub X13 hx hby d6_20 k))) ?_
  rw [show ((0 : Int32) - (2 : Int32)) = (-2 : Int32) from by decide]
  refine own_go (U' := T13.setTop (mkF m 62 (lc15 a1 q2 q2 0 2) [(.int ((0 : Int32) - (2 : Int32))), (.int 0)])) (fun t k => oifY (pc := 21) X13 hx hby d6_21 56 (by decide) (by decide) (oiconst X13 hx hby d6_56 (oiload X13 hx hby d6_57 rfl (oiload X13 hx hby d6_59 rfl (oisub X13 hx hby d6_61 k))))) ?_
  rw [show ((0 : Int32) - (2 : Int32)) = (-2 : Int32) from by decide]
  refine own_go (U' := T13.setTop (mkF m 64 (lc15 a1 q2 q2 0 2) [(.int ((-2 : Int32) + (1 : Int32))), (.int 0)])) (fun t k => oiconst X13 hx hby d6_62 (oiadd X13 hx hby d6_63 k)) ?_
  rw [show ((-2 : Int32) + (1 : Int32)) = (-1 : Int32) from by decide]
  obtain ⟨_, T20, L20, X20, hQ20, st20⟩ := ocallS X13 hx hZ zm4 hown (ww hw 48 rfl) (ww hw 49 rfl) (by decide) (ww hw 51 rfl) (ww hw 50 rfl) e13 (rm8_14 l Z a0 hw []  h0 n0 Z0 ) (st := [(.int (-1)), (.int 0)]) rfl 0 rfl (by decide) (pc := 64) (Ls := (lc15 a1 q2 q2 0 2)) hml rfl (lenOf pd_3 rfl) d6_64 hby
  obtain ⟨rfl, N20q, e20⟩ := hQ20
  have N21 := Fr.app N8 N20q
  refine own_go (U' := T20.setTop (mkF m 79 (lc18 a1 q2 q2 0 2 0 0) [(.int 1), (.int 0)])) (fun t k => st20 _ (oistore X20 hx hby d6_67 (lc17 a1 q2 q2 0 2 0) rfl (oiload X20 hx hby d6_69 rfl (oiload X20 hx hby d6_71 rfl (oisub X20 hx hby d6_73 (oistore X20 hx hby d6_74 (lc18 a1 q2 q2 0 2 0 0) rfl (oiload X20 hx hby d6_76 rfl (oiconst X20 hx hby d6_78 k)))))))) ?_
  refine own_go (U' := T20.setTop (mkF m 132 (lc18 a1 q2 q2 0 2 0 0) [(.int 0), (.int 0)])) (fun t k => oicY (pc := 79) X20 hx hby d6_79 128 (by decide) (by decide) (oiload X20 hx hby d6_128 rfl (oiload X20 hx hby d6_130 rfl k))) ?_
  refine own_go (U' := T20.setTop (mkF m 157 (lc18 a1 q2 q2 0 2 0 0) [(.int (lcmpW q2 (-9223372036854775808 : Int64)))])) (fun t k => oicY (pc := 132) X20 hx hby d6_132 151 (by decide) (by decide) (olload X20 hx hby d6_151 rfl (X20.ldc2Long hx hown (mvT hZ (ww hw 52 rfl)) (g := (mkF m 153 (lc18 a1 q2 q2 0 2 0 0) [(.long q2)])) rfl (hb hby d6_153) _ (olcmp X20 hx hby d6_156 k)))) ?_
  refine own_go (U' := T20.setTop (mkF m 166 (lc18 a1 q2 q2 0 2 0 0) [(.int (lcmpW q2 (9223372036854775807 : Int64)))])) (fun t k => oifN X20 hx hby d6_157 (own_ll_eq_f hc22) (olload X20 hx hby d6_160 rfl (X20.ldc2Long hx hown (mvT hZ (ww hw 53 rfl)) (g := (mkF m 162 (lc18 a1 q2 q2 0 2 0 0) [(.long q2)])) rfl (hb hby d6_162) _ (olcmp X20 hx hby d6_165 k)))) ?_
  refine own_go (U' := T20.setTop (mkF m 178 (lc18 a1 q2 q2 0 2 0 1) [(.int 1)])) (fun t k => oifN X20 hx hby d6_166 (own_ll_eq_f hc23) (oiconst X20 hx hby d6_169 (ogoto (pc := 170) X20 hx hby d6_170 174 (by decide) (oistore X20 hx hby d6_174 (lc18 a1 q2 q2 0 2 0 1) rfl (oiload X20 hx hby d6_176 rfl k))))) ?_
  obtain ⟨T24, X24, e24, st24⟩ := getF X20 hx hZ hown (host := "") (Or.inl (ww hw 32 rfl)) Via.refl e20 F9 (g := (mkF m 230 (lc18 a1 q2 q2 0 2 0 1) [(.ref a1), (.int 0)])) rfl rfl (hb hby d6_230)
  refine own_go (U' := T24.setTop (mkF m 233 (lc18 a1 q2 q2 0 2 0 1) [(.int 1), (.int 0)])) (fun t k => oifY (pc := 178) X20 hx hby d6_178 227 (by decide) (by decide) (oiload X20 hx hby d6_227 rfl (oaloadN X20 hx hby d6_229 rfl rfl (st24 _ k)))) ?_
  obtain ⟨T25, X25, e25, st25⟩ := getF X24 hx hZ hown (host := "") (Or.inl (ww hw 23 rfl)) Via.refl e24 F12 (g := (mkF m 237 (lc18 a1 q2 q2 0 2 0 1) [(.ref a1)])) rfl rfl (hb hby d6_237)
  obtain ⟨cl26, Ar26, q26, S26, N26, H26, G26⟩ := id F16
  have hin27 : ¬ ((0 : Int32) < 0 ∨ cl26.slots.size ≤ ((0 : Int32)).toNatClampNeg) := inb_of S26 ⟨by decide, by decide⟩
  have hat27 : cl26.slots[((0 : Int32)).toNatClampNeg]? = some (.long q14) := Has.at H26 hin27 rfl
  refine own_go (U' := T25.setTop (mkF m 246 (lc18 a1 q2 q2 0 2 0 1) [(.int (lcmpW q14 q2))])) (fun t k => oicN X24 hx hby d6_233 (by decide) (oaloadN X24 hx hby d6_236 rfl rfl (st25 _ (oiload X25 hx hby d6_240 rfl (X25.laload hx (j := (0 : Int32)) (v := (.long q14)) (by rw [e25]; exact Ar26.1) (State.isArrayOf_alike hZ.alike Ar26.2.1) Ar26.2.2 hin27 hat27 (g := (mkF m 242 (lc18 a1 q2 q2 0 2 0 1) [(.int 0), (.ref a11)])) rfl rfl (hb hby d6_242) _ (olload X25 hx hby d6_243 rfl (olcmp X25 hx hby d6_245 k))))))) ?_
  refine own_go (U' := T25.setTop (mkF m 280 (lc19 a1 q2 q2 0 2 0 1 0) [(.int 0)])) (fun t k => oifY (pc := 246) X25 hx hby d6_246 275 (own_ll_ne_t hc28) (by decide) (oiconst X25 hx hby d6_275 (oistore X25 hx hby d6_276 (lc19 a1 q2 q2 0 2 0 1 0) rfl (oiload X25 hx hby d6_278 rfl k)))) ?_
  refine own_go (U' := T25.setTop (mkF m 292 (lc19 a1 q2 q2 0 2 0 1 0) [(.int ((-1 : Int32) - (0 : Int32)))])) (fun t k => oifY (pc := 280) X25 hx hby d6_280 288 (by decide) (by decide) (oiconst X25 hx hby d6_288 (oiload X25 hx hby d6_289 rfl (oisub X25 hx hby d6_291 k)))) ?_
  rw [show ((-1 : Int32) - (0 : Int32)) = (-1 : Int32) from by decide]
  obtain ⟨fs, hr, hrun, hended, hW, hsame⟩ := X25.leave (v := some (.int (-1))) (fun h => by rw [Bd.returns] at h; cases h)
  refine own_out ⟨_, _, ?_, hrun, hended, _, _, rfl, ?_, ⟨_, rfl⟩, hW, hsame.mono (by decide) (by decide)⟩
  · exact retI X25 hx Bd.returns (hb hby d6_292) hr
  · show Q6_44 Z a1 q2 a4 a11 q14 kc15 h0 n0 _ T25.heap _
    rw [e25]
    exact ⟨rfl, N21, rfl⟩
def Qmg6_45 (Z : State) (a1 : Addr) (q2 : Int64) (a3 : Addr) (a8 : Addr) (q10 : Int64) (kc11 : ClassId) (h0 : Heap) (n0 : Nat) (v : Option Value) (h : Heap) (L : List Loc) : Prop := v = some (.int (-1)) ∧ Fr n0 L ∧ h = h0
theorem mg6_45 (l : Launch) (Z : State) (a0 : Array Value) (hw : ∀ d ∈ tables_1, d.before a0 Z = true) (ws : List Jvm.Cond) (a1 : Addr) (q2 : Int64) (a3 : Addr) (a8 : Addr) (q10 : Int64) (kc11 : ClassId) (h0 : Heap) (n0 : Nat) (Z0 : n0 ≤ h0.size) (F4 : Fld Z h0 a1 zs2 "side" zs4 (.ref a3)) (F5 : Sta Z h0 zs6 "BUY" zs4 (.ref a3)) (F6 : Exa Z h0 a1 zs2) (F7 : Fld Z h0 a1 zs2 "count" "I" (.int 1)) (F9 : Fld Z h0 a1 zs2 "ranks" "[J" (.ref a8)) (F12 : Arv Z h0 a8 kc11 .long (16 : Int32) [(.long q10)] (.long (0 : Int64))) (hc13 : ¬ (q10 < q2)) (hc14 : ¬ (q2 = (-9223372036854775808 : Int64))) (hc15 : ¬ (q2 = (9223372036854775807 : Int64))) (hc16 : ¬ (q10 = q2)) :
    MetFree l zm5 (head1 (Jvm.Cond.code zm5 prog_2_method_8_code 11 (some .int) :: ws) ({ frames := 1, cells := 0, slots := 0, locals := 14 } : Room)) (fun a U => a = #[(.ref a1), (.long q2), .null] ∧ Z.Warmed39 U.vm ∧ U.heap = h0) (fun _ _ _ _ _ => True) (fun _ U o U' => ∃ v L, o = .returned v ∧ Qmg6_45 Z a1 q2 a3 a8 q10 kc11 h0 n0 v U'.heap L ∧ FrameEnd U o U' L ({ frames := 1, cells := 0, slots := 0, locals := 14 } : Room).cells ({ frames := 1, cells := 0, slots := 0, locals := 14 } : Room).slots) := by
  exact rm6_44 l Z a0 hw ws a1 q2 a3 a8 q10 kc11 h0 n0 Z0 F4 F5 F6 F7 F9 F12 hc13 hc14 hc15 hc16
def Q5_46 (Z : State) (a1 : Addr) (q2 : Int64) (a4 : Addr) (a9 : Addr) (q11 : Int64) (kc12 : ClassId) (a20 : Addr) (a23 : Addr) (kc24 : ClassId) (h0 : Heap) (n0 : Nat) (v : Option Value) (h : Heap) (L : List Loc) : Prop := ∃ b48 : Addr, v = some (.ref b48) ∧ Fr n0 L ∧ Keep h0 h [a20, a9, a1] ∧ h0.size ≤ b48 ∧ Arv Z h a20 kc24 (.object zs1) (16 : Int32) [(.ref b48), (.ref a23)] .null ∧ Arv Z h a9 kc12 .long (16 : Int32) [(.long q2), (.long q11)] (.long (0 : Int64)) ∧ Fld Z h a1 zs2 "side" zs4 (.ref a4) ∧ Fld Z h a1 zs2 "count" "I" (.int 2) ∧ Fld Z h a1 zs2 "ranks" "[J" (.ref a9) ∧ Fld Z h a1 zs2 "levels" zs3 (.ref a20) ∧ Fld Z h a1 zs2 "emptyLevels" "I" (.int (-1)) ∧ Exa Z h b48 zs1 ∧ Fld Z h b48 zs1 "price" zs10 .null ∧ Fld Z h b48 zs1 "priceSteps" "J" (.long q2) ∧ Fld Z h b48 zs1 "first" zs11 .null
set_option maxRecDepth 65536 in
set_option maxHeartbeats 40000000 in
theorem rm5_46 (l : Launch) (Z : State) (a0 : Array Value) (hw : ∀ d ∈ tables_1, d.before a0 Z = true) (ws : List Jvm.Cond) (a1 : Addr) (q2 : Int64) (a4 : Addr) (a9 : Addr) (q11 : Int64) (kc12 : ClassId) (a20 : Addr) (a23 : Addr) (kc24 : ClassId) (h0 : Heap) (n0 : Nat) (Z0 : n0 ≤ h0.size) (F5 : Fld Z h0 a1 zs2 "side" zs4 (.ref a4)) (F6 : Sta Z h0 zs6 "BUY" zs4 (.ref a4)) (F7 : Exa Z h0 a1 zs2) (F8 : Fld Z h0 a1 zs2 "count" "I" (.int 1)) (F10 : Fld Z h0 a1 zs2 "ranks" "[J" (.ref a9)) (F13 : Arv Z h0 a9 kc12 .long (16 : Int32) [(.long q11)] (.long (0 : Int64))) (hc14 : ¬ (q11 < q2)) (hc15 : ¬ (q2 = (-9223372036854775808 : Int64))) (hc16 : ¬ (q2 = (9223372036854775807 : Int64))) (hc17 : ¬ (q11 = q2)) (F21 : Fld Z h0 a1 zs2 "levels" zs3 (.ref a20)) (F25 : Arv Z h0 a20 kc24 (.object zs1) (16 : Int32) [(.ref a23)] .null) (g32 : n0 ≤ a20) (O33 : Ovr Z kc24 zs1) (F34 : Exa Z h0 a23 zs1) (ne36 : a1 ≠ a20) (ne43 : a9 ≠ a20) (g46 : n0 ≤ a9) (ne58 : a1 ≠ a9) (F84 : Fld Z h0 a1 zs2 "emptyLevels" "I" (.int (-1))) (g87 : n0 ≤ a1) :
    MetFree l zm7 (head1 (Jvm.Cond.code zm7 prog_2_method_5_code 7 (some (.object zs1)) :: ws) ({ frames := 2, cells := 1, slots := 4, locals := 36 } : Room)) (fun a U => a = #[(.ref a1), (.long q2), .null] ∧ Z.Warmed39 U.vm ∧ U.heap = h0) (fun _ _ _ _ _ => True) (fun _ U o U' => ∃ v L, o = .returned v ∧ Q5_46 Z a1 q2 a4 a9 q11 kc12 a20 a23 kc24 h0 n0 v U'.heap L ∧ FrameEnd U o U' L ({ frames := 2, cells := 1, slots := 4, locals := 36 } : Room).cells ({ frames := 2, cells := 1, slots := 4, locals := 36 } : Room).slots) := by
  refine MetFree.of_bodySF (plainFor_of_name pn_com_example_srok_srok_engine_BookSide) hisR ?_
  intro p e s m args below meth c s₁ Bd hml0 hP hK
  obtain ⟨rfl, hZ, hh⟩ := hP
  have hx := Bd.exec
  have hby := Bd.bytes
  have hml : c.maxLocals = 7 := hml0
  have hown : s.vm.findClass zs2 = some m.cls := findClass_of_methodNamed Bd.named
  have hnm := (name_of_methodNamed Bd.named Bd.method).1
  have X0 : Stand p l e ({ frames := 2, cells := 1, slots := 4, locals := 36 } : Room) s m #[(.ref a1), (.long q2), .null] below meth c s₁ [] 0 0 := Stand.of_body Bd
  have e0 : s₁.heap = h0 := by rw [← hh, Bd.state]; rfl
  have N0 := Fr.nil n0
  refine own_pre (g' := mkF m 0 (lc10 a1 q2) []) (ef_7 m a1 q2) ?_
  obtain ⟨_, T3, L3, X3, hQ3, st3⟩ := ocallP X0 hx hZ zm5 hown (ww hw 39 rfl) (ww hw 40 rfl) (own_selP (mvT hZ (ww hw 10 rfl)) (mvP hZ (ww hw 41 rfl)) (mvT hZ (ww hw 40 rfl)) (by decide)) (ww hw 41 rfl) (by decide) (ww hw 42 rfl) (ww hw 11 rfl) e0 F7 (mg6_45 l Z a0 hw [] a1 q2 a4 a9 q11 kc12 h0 n0 Z0 F5 F6 F7 F8 F10 F13 hc14 hc15 hc16 hc17) (st := [.null, (.long q2), (.ref a1)]) rfl 0 rfl (by decide) (pc := 3) (Ls := (lc10 a1 q2)) hml rfl (lenOf pd_4 rfl) d5_3 hby
  obtain ⟨rfl, N3q, e3⟩ := hQ3
  have N18 := Fr.app N0 N3q
  refine own_go (U' := T3.setTop (mkF m 10 (lc20 a1 q2 (-1)) [(.int (-1))])) (fun t k => oaloadN X0 hx hby d5_0 rfl rfl (olloadN X0 hx hby d5_1 rfl (oaloadN X0 hx hby d5_2 rfl rfl (st3 _ (oistore X3 hx hby d5_6 (lc20 a1 q2 (-1)) rfl (oiload X3 hx hby d5_8 rfl k)))))) ?_
  refine own_go (U' := T3.setTop (mkF m 47 (lc20 a1 q2 (-1)) [(.int (-(-1 : Int32)))])) (fun t k => oifY (pc := 10) X3 hx hby d5_10 44 (by decide) (by decide) (oiload X3 hx hby d5_44 rfl (oineg X3 hx hby d5_46 k))) ?_
  rw [show (-(-1 : Int32)) = (1 : Int32) from by decide]
  obtain ⟨T19, X19, e19, st19⟩ := getF X3 hx hZ hown (host := "") (Or.inl (ww hw 32 rfl)) Via.refl e3 F8 (g := (mkF m 52 (lc21 a1 q2 (-1) 0) [(.ref a1)])) rfl rfl (hb hby d5_52)
  obtain ⟨T22, X22, e22, st22⟩ := getF X19 hx hZ hown (host := "") (Or.inl (ww hw 20 rfl)) Via.refl e19 F21 (g := (mkF m 56 (lc21 a1 q2 (-1) 0) [(.ref a1), (.int 1)])) rfl rfl (hb hby d5_56)
  refine own_go (U' := T22.setTop (mkF m 59 (lc21 a1 q2 (-1) 0) [(.ref a20), (.int 1)])) (fun t k => oiconst X3 hx hby d5_47 (oisub X3 hx hby d5_48 (oistore X3 hx hby d5_49 (lc21 a1 q2 (-1) 0) rfl (oaloadN X3 hx hby d5_51 rfl rfl (st19 _ (oaloadN X19 hx hby d5_55 rfl rfl (st22 _ k))))))) ?_
  obtain ⟨cl26, Ar26, q26, S26, N26, H26, G26⟩ := id F25
  refine own_go (fun t k => X22.arraylength hx (by rw [e22]; exact Ar26.1) (State.isArrayOf_alike hZ.alike Ar26.2.1) (g := (mkF m 59 (lc21 a1 q2 (-1) 0) [(.ref a20), (.int 1)])) rfl rfl (hb hby d5_59) _ k) ?_
  rw [len_of S26 N26]
  obtain ⟨T27, X27, e27, st27⟩ := getF X22 hx hZ hown (host := "") (Or.inl (ww hw 20 rfl)) Via.refl e22 F21 (g := (mkF m 101 (lc21 a1 q2 (-1) 0) [(.ref a1)])) rfl rfl (hb hby d5_101)
  obtain ⟨T28, X28, e28, st28⟩ := getF X27 hx hZ hown (host := "") (Or.inl (ww hw 20 rfl)) Via.refl e27 F21 (g := (mkF m 107 (lc21 a1 q2 (-1) 0) [(.ref a1), (.int 0), (.ref a20)])) rfl rfl (hb hby d5_107)
  obtain ⟨T29, X29, e29, st29⟩ := getF X28 hx hZ hown (host := "") (Or.inl (ww hw 32 rfl)) Via.refl e28 F8 (g := (mkF m 115 (lc21 a1 q2 (-1) 0) [(.ref a1), (.int 1), (.ref a20), (.int 0), (.ref a20)])) rfl rfl (hb hby d5_115)
  have f31 : Arv Z h0 a20 kc24 (.object zs1) (16 : Int32) [(.ref a23), .null] .null := F25.pad (pad_rep [(.ref a23)] .null 1)
  obtain ⟨cl30, Ar30, q30, -⟩ := id f31
  obtain ⟨T30, h30, L30, X30, e30, N30, K30, V30, st30⟩ := cpA X29 hx hZ hown (ww hw 54 rfl) (ww hw 57 rfl) (ww hw 55 rfl) (ww hw 56 rfl) e29 (us := [(.ref a23)]) f31 f31 (Or.inr ⟨rfl, rfl, ⟨(Sto.ofV Ar30 q30 O33 (Ins.self F34)), trivial⟩⟩) (by decide) (by decide) (by decide) (by decide) (by decide) rfl (Nat.le_of_ble_eq_true rfl) N18 g32 (g := (mkF m 121 (lc21 a1 q2 (-1) 0) [(.int 1), (.int 1), (.ref a20), (.int 0), (.ref a20)])) rfl (by rw [hml]; rfl) rfl (hb hby d5_121) (by decide) (W := 0) (by show 2 * 0 + _ ≤ _; exact Nat.le_of_eq rfl) (by decide)
  have f35 : Arv Z h30 a20 kc24 (.object zs1) (16 : Int32) [(.ref a23), (.ref a23)] .null := V30
  have f37 : Fld Z h30 a1 zs2 "ranks" "[J" (.ref a9) := (F10.keep K30 (ninS ne36 nin0))
  obtain ⟨T38, X38, e38, st38⟩ := getF X30 hx hZ hown (host := "") (Or.inl (ww hw 23 rfl)) Via.refl e30 f37 (g := (mkF m 125 (lc21 a1 q2 (-1) 0) [(.ref a1)])) rfl rfl (hb hby d5_125)
  obtain ⟨T39, X39, e39, st39⟩ := getF X38 hx hZ hown (host := "") (Or.inl (ww hw 23 rfl)) Via.refl e38 f37 (g := (mkF m 131 (lc21 a1 q2 (-1) 0) [(.ref a1), (.int 0), (.ref a9)])) rfl rfl (hb hby d5_131)
  have f40 : Fld Z h30 a1 zs2 "count" "I" (.int 1) := (F8.keep K30 (ninS ne36 nin0))
  obtain ⟨T41, X41, e41, st41⟩ := getF X39 hx hZ hown (host := "") (Or.inl (ww hw 32 rfl)) Via.refl e39 f40 (g := (mkF m 139 (lc21 a1 q2 (-1) 0) [(.ref a1), (.int 1), (.ref a9), (.int 0), (.ref a9)])) rfl rfl (hb hby d5_139)
  have f44 : Arv Z h30 a9 kc12 .long (16 : Int32) [(.long q11)] (.long (0 : Int64)) := (F13.keep K30 (ninS ne43 nin0))
  have f45 : Arv Z h30 a9 kc12 .long (16 : Int32) [(.long q11), (.long 0)] (.long (0 : Int64)) := f44.pad (pad_rep [(.long q11)] (.long (0 : Int64)) 1)
  obtain ⟨T42, h42, L42, X42, e42, N42, K42, V42, st42⟩ := cpA X41 hx hZ hown (ww hw 54 rfl) (ww hw 57 rfl) (ww hw 55 rfl) (ww hw 56 rfl) e41 (us := [(.long q11)]) f45 f45 (Or.inl ⟨rfl, rfl⟩) (by decide) (by decide) (by decide) (by decide) (by decide) rfl (Nat.le_of_ble_eq_true rfl) N30 g46 (g := (mkF m 145 (lc21 a1 q2 (-1) 0) [(.int 1), (.int 1), (.ref a9), (.int 0), (.ref a9)])) rfl (by rw [hml]; rfl) rfl (hb hby d5_145) (by decide) (W := 0) (by show 2 * 0 + _ ≤ _; exact Nat.le_of_eq rfl) (by decide)
  have f47 : Arv Z h42 a9 kc12 .long (16 : Int32) [(.long q11), (.long q11)] (.long (0 : Int64)) := V42
  obtain ⟨T48, h48, X48, e48, E48, A48, D48, -, st48⟩ := newO X42 hx hZ hown (ww hw 18 rfl) (ww hw 58 rfl) (ww hw 59 rfl) e42 (g := (mkF m 148 (lc21 a1 q2 (-1) 0) [])) rfl (hb hby d5_148) (by decide) (by decide)
  obtain ⟨b48, g48⟩ : ∃ z, z = h42.size := ⟨_, rfl⟩
  rw [← g48] at A48 D48 st48
  have f49 : Fld Z h48 b48 zs1 "price" zs10 .null := D48 (Or.inr (ww hw 65 rfl)) (ty := (.object zs13)) (by decide)
  have f50 : Fld Z h48 b48 zs1 "priceSteps" "J" (.long 0) := D48 (Or.inr (ww hw 67 rfl)) (ty := .long) (by decide)
  have f51 : Fld Z h48 b48 zs1 "first" zs11 .null := D48 (Or.inl (ww hw 78 rfl)) (ty := (.object zs14)) (by decide)
  have Z_1 : n0 ≤ h30.size := Nat.le_trans Z0 K30.1
  have Z_2 : n0 ≤ h42.size := Nat.le_trans Z_1 K42.1
  have g53 : n0 ≤ b48 := Nat.le_trans Z_2 (Nat.le_of_eq g48.symm)
  have Z_3 : n0 ≤ h48.size := Nat.le_trans Z_2 E48.1
  obtain ⟨_, T52, L52, X52, hQ52, st52⟩ := ocallI X48 hx hZ zm6 rfl hown (ww hw 60 rfl) (ww hw 61 rfl) (by decide) (ww hw 62 rfl) (ww hw 59 rfl) e48 (rm9_10 l Z a0 hw [] b48 q2 h48 n0 Z_3 f49 f50 f51 A48 g53) (st := [(.long q2), .null, (.ref b48), (.ref b48)]) rfl 1 rfl (by decide) (pc := 154) (Ls := (lc21 a1 q2 (-1) 0)) hml rfl (lenOf pd_5 rfl) d5_154 hby
  obtain ⟨rfl, N52q, K52, f54, f55, f56⟩ := hQ52
  have N57 := Fr.app N42 N52q
  have ne59 : a1 ≠ b48 := Nat.ne_of_lt (Nat.lt_of_lt_of_le (Nat.lt_of_lt_of_le (Nat.lt_of_lt_of_le (F5.lt) K30.1) K42.1) (Nat.le_of_eq g48.symm))
  have f60 : Fld Z T52.heap a1 zs2 "levels" zs3 (.ref a20) := ((Fld.ext E48 ((F21.keep K30 (ninS ne36 nin0)).keep K42 (ninS ne58 nin0))).keep K52 (ninS ne59 nin0))
  obtain ⟨T61, X61, e61, st61⟩ := getF X52 hx hZ hown (host := "") (Or.inl (ww hw 20 rfl)) Via.refl rfl f60 (g := (mkF m 160 (lc23 a1 q2 (-1) 0 b48) [(.ref a1)])) rfl rfl (hb hby d5_160)
  have ne62 : a20 ≠ b48 := Nat.ne_of_lt (Nat.lt_of_lt_of_le (Nat.lt_of_lt_of_le (f35.lt) K42.1) (Nat.le_of_eq g48.symm))
  have f63 : Arv Z T52.heap a20 kc24 (.object zs1) (16 : Int32) [(.ref a23), (.ref a23)] .null := (((f35.keep K42 (ninS (Ne.symm ne43) nin0)).ext E48).keep K52 (ninS ne62 nin0))
  have f64 : Exa Z T52.heap b48 zs1 := (A48.keep K52)
  obtain ⟨cl65, Ar65, q65, S65, N65, H65, G65⟩ := id f63
  have hin66 : ¬ ((0 : Int32) < 0 ∨ cl65.slots.size ≤ ((0 : Int32)).toNatClampNeg) := inb_of S65 ⟨by decide, by decide⟩
  obtain ⟨T66, h66, X66, e66, W66, st66⟩ := stR X61 hx hZ e61 Ar65 (j := (0 : Int32)) hin66 rfl (Sto.ofV Ar65 q65 O33 (Ins.self f64)) (g := (mkF m 167 (lc23 a1 q2 (-1) 0 b48) [(.ref b48), (.int 0), (.ref a20)])) rfl rfl (hb hby d5_167)
  have N67 := Fr.snoc X66 N57 g32
  have f68 : Arv Z h66 a20 kc24 (.object zs1) (16 : Int32) [(.ref b48), (.ref a23)] .null := Arv.set Ar65 q65 S65 N65 H65 G65 (by rfl) W66 0 rfl (Nat.le_of_ble_eq_true rfl)
  have f69 : Fld Z h66 a1 zs2 "ranks" "[J" (.ref a9) := (Fld.other W66 ((Fld.ext E48 (f37.keep K42 (ninS ne58 nin0))).keep K52 (ninS ne59 nin0)) (Or.inl ne36))
  obtain ⟨T70, X70, e70, st70⟩ := getF X66 hx hZ hown (host := "") (Or.inl (ww hw 23 rfl)) Via.refl e66 f69 (g := (mkF m 169 (lc23 a1 q2 (-1) 0 b48) [(.ref a1)])) rfl rfl (hb hby d5_169)
  have f72 : Fld Z h66 a1 zs2 "side" zs4 (.ref a4) := (Fld.other W66 ((Fld.ext E48 ((F5.keep K30 (ninS ne36 nin0)).keep K42 (ninS ne58 nin0))).keep K52 (ninS ne59 nin0)) (Or.inl ne36))
  have f73 : Sta Z h66 zs6 "BUY" zs4 (.ref a4) := (Sta.wr W66 (own_staK (Sta.ext E48 (own_staK (own_staK F6 K30 (allS (own_nsV f31) all0)) K42 (allS (own_nsV f45) all0))) K52 (allS (own_nsF f49) all0)))
  have Z_4 : n0 ≤ T52.heap.size := Nat.le_trans Z_3 K52.1
  have Z_5 : n0 ≤ h66.size := Nat.le_trans Z_4 (Keep.of_wr W66).1
  have f74 : Exa Z h66 a1 zs2 := (Exa.wr W66 ((Exa.ext E48 ((F7.keep K30).keep K42)).keep K52))
  obtain ⟨_, T71, L71, X71, hQ71, st71⟩ := ocallP X70 hx hZ zm3 hown (ww hw 43 rfl) (ww hw 44 rfl) (own_selP (mvT hZ (ww hw 10 rfl)) (mvP hZ (ww hw 45 rfl)) (mvT hZ (ww hw 44 rfl)) (by decide)) (ww hw 45 rfl) (by decide) (ww hw 46 rfl) (ww hw 11 rfl) e70 f74 (rm7_6 l Z a0 hw [] a1 q2 a4 h66 n0 Z_5 f72 f73) (st := [(.long q2), (.ref a1), (.int 0), (.ref a9)]) rfl 2 rfl (by decide) (pc := 176) (Ls := (lc23 a1 q2 (-1) 0 b48)) hml rfl (lenOf pd_0 rfl) d5_176 hby
  obtain ⟨rfl, N71q, e71⟩ := hQ71
  have N75 := Fr.app N67 N71q
  have ne76 : a9 ≠ b48 := Nat.ne_of_lt (Nat.lt_of_lt_of_le (f47.lt) (Nat.le_of_eq g48.symm))
  have f77 : Arv Z h66 a9 kc12 .long (16 : Int32) [(.long q11), (.long q11)] (.long (0 : Int64)) := (((f47.ext E48).keep K52 (ninS ne76 nin0)).other W66 ne43)
  obtain ⟨cl78, Ar78, q78, S78, N78, H78, G78⟩ := id f77
  have hin79 : ¬ ((0 : Int32) < 0 ∨ cl78.slots.size ≤ ((0 : Int32)).toNatClampNeg) := inb_of S78 ⟨by decide, by decide⟩
  obtain ⟨T79, h79, X79, e79, W79, st79⟩ := stJ X71 hx hZ e71 Ar78 (j := (0 : Int32)) hin79 (g := (mkF m 179 (lc23 a1 q2 (-1) 0 b48) [(.long q2), (.int 0), (.ref a9)])) rfl rfl (hb hby d5_179)
  have N80 := Fr.snoc X79 N75 g46
  have f81 : Arv Z h79 a9 kc12 .long (16 : Int32) [(.long q2), (.long q11)] (.long (0 : Int64)) := Arv.set Ar78 q78 S78 N78 H78 G78 (by rfl) W79 0 rfl (Nat.le_of_ble_eq_true rfl)
  have f82 : Fld Z h79 a1 zs2 "count" "I" (.int 1) := (Fld.other W79 (Fld.other W66 ((Fld.ext E48 (f40.keep K42 (ninS ne58 nin0))).keep K52 (ninS ne59 nin0)) (Or.inl ne36)) (Or.inl ne58))
  obtain ⟨T83, X83, e83, st83⟩ := getF X79 hx hZ hown (host := "") (Or.inl (ww hw 32 rfl)) Via.refl e79 f82 (g := (mkF m 182 (lc23 a1 q2 (-1) 0 b48) [(.ref a1), (.ref a1)])) rfl rfl (hb hby d5_182)
  have f85 : Exa Z h79 a1 zs2 := (Exa.wr W79 f74)
  obtain ⟨T86, h86, X86, e86, W86, st86⟩ := putF X83 hx hZ hown (host := "") (Or.inl (ww hw 32 rfl)) Via.refl e83 f82 f85 (Or.inl (ww hw 33 rfl)) (ww hw 10 rfl) (ty := .int) (by decide) rfl rfl (g := (mkF m 187 (lc23 a1 q2 (-1) 0 b48) [(.int 2), (.ref a1)])) rfl rfl (hb hby d5_187)
  have N88 := Fr.snoc X86 N80 g87
  have f89 : Fld Z h86 a1 zs2 "count" "I" (.int 2) := Fld.same W86 f82
  refine own_go (U' := T86.setTop (mkF m 192 (lc23 a1 q2 (-1) 0 b48) [(.ref b48)])) (fun t k => oicY (pc := 60) X22 hx hby d5_60 100 (by decide) (by decide) (oaloadN X22 hx hby d5_100 rfl rfl (st27 _ (oiload X27 hx hby d5_104 rfl (oaloadN X27 hx hby d5_106 rfl rfl (st28 _ (oiload X28 hx hby d5_110 rfl (oiconst X28 hx hby d5_112 (oiadd X28 hx hby d5_113 (oaloadN X28 hx hby d5_114 rfl rfl (st29 _ (oiload X29 hx hby d5_118 rfl (oisub X29 hx hby d5_120 (st30 _ (oaloadN X30 hx hby d5_124 rfl rfl (st38 _ (oiload X38 hx hby d5_128 rfl (oaloadN X38 hx hby d5_130 rfl rfl (st39 _ (oiload X39 hx hby d5_134 rfl (oiconst X39 hx hby d5_136 (oiadd X39 hx hby d5_137 (oaloadN X39 hx hby d5_138 rfl rfl (st41 _ (oiload X41 hx hby d5_142 rfl (oisub X41 hx hby d5_144 (st42 _ (st48 _ (odup X48 hx hby d5_151 rfl (oaloadN X48 hx hby d5_152 rfl rfl (olloadN X48 hx hby d5_153 rfl (st52 _ (oastore X52 hx hby d5_157 (lc23 a1 q2 (-1) 0 b48) rfl rfl (oaloadN X52 hx hby d5_159 rfl rfl (st61 _ (oiload X61 hx hby d5_163 rfl (oaload X61 hx hby d5_165 rfl rfl (st66 _ (oaloadN X66 hx hby d5_168 rfl rfl (st70 _ (oiload X70 hx hby d5_172 rfl (oaloadN X70 hx hby d5_174 rfl rfl (olloadN X70 hx hby d5_175 rfl (st71 _ (st79 _ (oaloadN X79 hx hby d5_180 rfl rfl (odup X79 hx hby d5_181 rfl (st83 _ (oiconst X83 hx hby d5_185 (oiadd X83 hx hby d5_186 (st86 _ (oaload X86 hx hby d5_190 rfl rfl k)))))))))))))))))))))))))))))))))))))))))))))))))))) ?_
  have f90 : Arv Z h86 a20 kc24 (.object zs1) (16 : Int32) [(.ref b48), (.ref a23)] .null := ((f68.other W79 (Ne.symm ne43)).other W86 (Ne.symm ne36))
  have f91 : Arv Z h86 a9 kc12 .long (16 : Int32) [(.long q2), (.long q11)] (.long (0 : Int64)) := (f81.other W86 (Ne.symm ne58))
  have f92 : Fld Z h86 a1 zs2 "side" zs4 (.ref a4) := (Fld.other W86 (Fld.other W79 f72 (Or.inl ne58)) (Or.inr (slot_ne (Or.inr (ww hw 26 rfl)) (Or.inl (ww hw 33 rfl)) (by decide) (t := (.object zs6)) (t' := .int) (by decide) (by decide))))
  have f93 : Fld Z h86 a1 zs2 "ranks" "[J" (.ref a9) := (Fld.other W86 (Fld.other W79 f69 (Or.inl ne58)) (Or.inr (slot_ne (Or.inl (ww hw 24 rfl)) (Or.inl (ww hw 33 rfl)) (by decide) (t := (.array .long)) (t' := .int) (by decide) (by decide))))
  have f94 : Fld Z h86 a1 zs2 "levels" zs3 (.ref a20) := (Fld.other W86 (Fld.other W79 (Fld.other W66 f60 (Or.inl ne36)) (Or.inl ne58)) (Or.inr (slot_ne (Or.inl (ww hw 21 rfl)) (Or.inl (ww hw 33 rfl)) (by decide) (t := (.array (.object zs1))) (t' := .int) (by decide) (by decide))))
  have f95 : Fld Z h86 a1 zs2 "emptyLevels" "I" (.int (-1)) := (Fld.other W86 (Fld.other W79 (Fld.other W66 ((Fld.ext E48 ((F84.keep K30 (ninS ne36 nin0)).keep K42 (ninS ne58 nin0))).keep K52 (ninS ne59 nin0)) (Or.inl ne36)) (Or.inl ne58)) (Or.inr (slot_ne (Or.inl (ww hw 80 rfl)) (Or.inl (ww hw 33 rfl)) (by decide) (t := .int) (t' := .int) (by decide) (by decide))))
  have f96 : Exa Z h86 b48 zs1 := (Exa.wr W86 (Exa.wr W79 (Exa.wr W66 f64)))
  have f97 : Fld Z h86 b48 zs1 "price" zs10 .null := (Fld.other W86 (Fld.other W79 (Fld.other W66 f54 (Or.inl (Ne.symm ne62))) (Or.inl (Ne.symm ne76))) (Or.inl (Ne.symm ne59)))
  have f98 : Fld Z h86 b48 zs1 "priceSteps" "J" (.long q2) := (Fld.other W86 (Fld.other W79 (Fld.other W66 f55 (Or.inl (Ne.symm ne62))) (Or.inl (Ne.symm ne76))) (Or.inl (Ne.symm ne59)))
  have f99 : Fld Z h86 b48 zs1 "first" zs11 .null := (Fld.other W86 (Fld.other W79 (Fld.other W66 f56 (Or.inl (Ne.symm ne62))) (Or.inl (Ne.symm ne76))) (Or.inl (Ne.symm ne59)))
  obtain ⟨fs, hr, hrun, hended, hW, hsame⟩ := X86.leave (v := some (.ref b48)) (fun h => by rw [Bd.returns] at h; cases h)
  refine own_out ⟨_, _, ?_, hrun, hended, _, _, rfl, ?_, ⟨_, rfl⟩, hW, hsame.mono (by decide) (by decide)⟩
  · exact retOut X86 hx Bd.returns rfl (Or.inr (Or.inr (Or.inr (Or.inr ⟨rfl, rfl, rfl⟩)))) (hb hby d5_192) hr
  · show Q5_46 Z a1 q2 a4 a9 q11 kc12 a20 a23 kc24 h0 n0 _ T86.heap _
    rw [e86]
    exact ⟨b48, rfl, N88, ((((Keep.trans ((Keep.trans (Keep.trans (Keep.refl h0 [a20, a9, a1]) K30 (allS (Or.inl (List.mem_of_getElem? (i := 0) rfl)) all0)) K42 (allS (Or.inl (List.mem_of_getElem? (i := 1) rfl)) all0)).ext E48) K52 (allS (Or.inr (Nat.le_trans K30.1 (Nat.le_trans K42.1 (Nat.le_of_eq g48.symm)))) all0)).wr W66 (Or.inl (List.mem_of_getElem? (i := 0) rfl))).wr W79 (Or.inl (List.mem_of_getElem? (i := 1) rfl))).wr W86 (Or.inl (List.mem_of_getElem? (i := 2) rfl))), (Nat.le_trans K30.1 (Nat.le_trans K42.1 (Nat.le_of_eq g48.symm))), f90, f91, f92, f89, f93, f94, f95, f96, f97, f98, f99⟩
def Q5_47 (Z : State) (a1 : Addr) (q2 : Int64) (a4 : Addr) (a9 : Addr) (q11 : Int64) (kc12 : ClassId) (a20 : Addr) (a23 : Addr) (kc24 : ClassId) (h0 : Heap) (n0 : Nat) (v : Option Value) (h : Heap) (L : List Loc) : Prop := ∃ b48 : Addr, v = some (.ref b48) ∧ Fr n0 L ∧ Keep h0 h [a20, a9, a1] ∧ h0.size ≤ b48 ∧ Arv Z h a20 kc24 (.object zs1) (16 : Int32) [(.ref b48), (.ref a23)] .null ∧ Arv Z h a9 kc12 .long (16 : Int32) [(.long q2), (.long q11)] (.long (0 : Int64)) ∧ Fld Z h a1 zs2 "side" zs4 (.ref a4) ∧ Fld Z h a1 zs2 "count" "I" (.int 2) ∧ Fld Z h a1 zs2 "ranks" "[J" (.ref a9) ∧ Fld Z h a1 zs2 "levels" zs3 (.ref a20) ∧ Fld Z h a1 zs2 "emptyLevels" "I" (.int 0) ∧ Exa Z h b48 zs1 ∧ Fld Z h b48 zs1 "price" zs10 .null ∧ Fld Z h b48 zs1 "priceSteps" "J" (.long q2) ∧ Fld Z h b48 zs1 "first" zs11 .null
set_option maxRecDepth 65536 in
set_option maxHeartbeats 40000000 in
theorem rm5_47 (l : Launch) (Z : State) (a0 : Array Value) (hw : ∀ d ∈ tables_1, d.before a0 Z = true) (ws : List Jvm.Cond) (a1 : Addr) (q2 : Int64) (a4 : Addr) (a9 : Addr) (q11 : Int64) (kc12 : ClassId) (a20 : Addr) (a23 : Addr) (kc24 : ClassId) (h0 : Heap) (n0 : Nat) (Z0 : n0 ≤ h0.size) (F5 : Fld Z h0 a1 zs2 "side" zs4 (.ref a4)) (F6 : Sta Z h0 zs6 "BUY" zs4 (.ref a4)) (F7 : Exa Z h0 a1 zs2) (F8 : Fld Z h0 a1 zs2 "count" "I" (.int 1)) (F10 : Fld Z h0 a1 zs2 "ranks" "[J" (.ref a9)) (F13 : Arv Z h0 a9 kc12 .long (16 : Int32) [(.long q11)] (.long (0 : Int64))) (hc14 : ¬ (q11 < q2)) (hc15 : ¬ (q2 = (-9223372036854775808 : Int64))) (hc16 : ¬ (q2 = (9223372036854775807 : Int64))) (hc17 : ¬ (q11 = q2)) (F21 : Fld Z h0 a1 zs2 "levels" zs3 (.ref a20)) (F25 : Arv Z h0 a20 kc24 (.object zs1) (16 : Int32) [(.ref a23)] .null) (g32 : n0 ≤ a20) (O33 : Ovr Z kc24 zs1) (F34 : Exa Z h0 a23 zs1) (ne36 : a1 ≠ a20) (ne43 : a9 ≠ a20) (g46 : n0 ≤ a9) (ne58 : a1 ≠ a9) (F84 : Fld Z h0 a1 zs2 "emptyLevels" "I" (.int 0)) (g87 : n0 ≤ a1) :
    MetFree l zm7 (head1 (Jvm.Cond.code zm7 prog_2_method_5_code 7 (some (.object zs1)) :: ws) ({ frames := 2, cells := 1, slots := 4, locals := 36 } : Room)) (fun a U => a = #[(.ref a1), (.long q2), .null] ∧ Z.Warmed39 U.vm ∧ U.heap = h0) (fun _ _ _ _ _ => True) (fun _ U o U' => ∃ v L, o = .returned v ∧ Q5_47 Z a1 q2 a4 a9 q11 kc12 a20 a23 kc24 h0 n0 v U'.heap L ∧ FrameEnd U o U' L ({ frames := 2, cells := 1, slots := 4, locals := 36 } : Room).cells ({ frames := 2, cells := 1, slots := 4, locals := 36 } : Room).slots) := by
  refine MetFree.of_bodySF (plainFor_of_name pn_com_example_srok_srok_engine_BookSide) hisR ?_
  intro p e s m args below meth c s₁ Bd hml0 hP hK
  obtain ⟨rfl, hZ, hh⟩ := hP
  have hx := Bd.exec
  have hby := Bd.bytes
  have hml : c.maxLocals = 7 := hml0
  have hown : s.vm.findClass zs2 = some m.cls := findClass_of_methodNamed Bd.named
  have hnm := (name_of_methodNamed Bd.named Bd.method).1
  have X0 : Stand p l e ({ frames := 2, cells := 1, slots := 4, locals := 36 } : Room) s m #[(.ref a1), (.long q2), .null] below meth c s₁ [] 0 0 := Stand.of_body Bd
  have e0 : s₁.heap = h0 := by rw [← hh, Bd.state]; rfl
  have N0 := Fr.nil n0
  refine own_pre (g' := mkF m 0 (lc10 a1 q2) []) (ef_7 m a1 q2) ?_
  obtain ⟨_, T3, L3, X3, hQ3, st3⟩ := ocallP X0 hx hZ zm5 hown (ww hw 39 rfl) (ww hw 40 rfl) (own_selP (mvT hZ (ww hw 10 rfl)) (mvP hZ (ww hw 41 rfl)) (mvT hZ (ww hw 40 rfl)) (by decide)) (ww hw 41 rfl) (by decide) (ww hw 42 rfl) (ww hw 11 rfl) e0 F7 (mg6_45 l Z a0 hw [] a1 q2 a4 a9 q11 kc12 h0 n0 Z0 F5 F6 F7 F8 F10 F13 hc14 hc15 hc16 hc17) (st := [.null, (.long q2), (.ref a1)]) rfl 0 rfl (by decide) (pc := 3) (Ls := (lc10 a1 q2)) hml rfl (lenOf pd_4 rfl) d5_3 hby
  obtain ⟨rfl, N3q, e3⟩ := hQ3
  have N18 := Fr.app N0 N3q
  refine own_go (U' := T3.setTop (mkF m 10 (lc20 a1 q2 (-1)) [(.int (-1))])) (fun t k => oaloadN X0 hx hby d5_0 rfl rfl (olloadN X0 hx hby d5_1 rfl (oaloadN X0 hx hby d5_2 rfl rfl (st3 _ (oistore X3 hx hby d5_6 (lc20 a1 q2 (-1)) rfl (oiload X3 hx hby d5_8 rfl k)))))) ?_
  refine own_go (U' := T3.setTop (mkF m 47 (lc20 a1 q2 (-1)) [(.int (-(-1 : Int32)))])) (fun t k => oifY (pc := 10) X3 hx hby d5_10 44 (by decide) (by decide) (oiload X3 hx hby d5_44 rfl (oineg X3 hx hby d5_46 k))) ?_
  rw [show (-(-1 : Int32)) = (1 : Int32) from by decide]
  obtain ⟨T19, X19, e19, st19⟩ := getF X3 hx hZ hown (host := "") (Or.inl (ww hw 32 rfl)) Via.refl e3 F8 (g := (mkF m 52 (lc21 a1 q2 (-1) 0) [(.ref a1)])) rfl rfl (hb hby d5_52)
  obtain ⟨T22, X22, e22, st22⟩ := getF X19 hx hZ hown (host := "") (Or.inl (ww hw 20 rfl)) Via.refl e19 F21 (g := (mkF m 56 (lc21 a1 q2 (-1) 0) [(.ref a1), (.int 1)])) rfl rfl (hb hby d5_56)
  refine own_go (U' := T22.setTop (mkF m 59 (lc21 a1 q2 (-1) 0) [(.ref a20), (.int 1)])) (fun t k => oiconst X3 hx hby d5_47 (oisub X3 hx hby d5_48 (oistore X3 hx hby d5_49 (lc21 a1 q2 (-1) 0) rfl (oaloadN X3 hx hby d5_51 rfl rfl (st19 _ (oaloadN X19 hx hby d5_55 rfl rfl (st22 _ k))))))) ?_
  obtain ⟨cl26, Ar26, q26, S26, N26, H26, G26⟩ := id F25
  refine own_go (fun t k => X22.arraylength hx (by rw [e22]; exact Ar26.1) (State.isArrayOf_alike hZ.alike Ar26.2.1) (g := (mkF m 59 (lc21 a1 q2 (-1) 0) [(.ref a20), (.int 1)])) rfl rfl (hb hby d5_59) _ k) ?_
  rw [len_of S26 N26]
  obtain ⟨T27, X27, e27, st27⟩ := getF X22 hx hZ hown (host := "") (Or.inl (ww hw 20 rfl)) Via.refl e22 F21 (g := (mkF m 101 (lc21 a1 q2 (-1) 0) [(.ref a1)])) rfl rfl (hb hby d5_101)
  obtain ⟨T28, X28, e28, st28⟩ := getF X27 hx hZ hown (host := "") (Or.inl (ww hw 20 rfl)) Via.refl e27 F21 (g := (mkF m 107 (lc21 a1 q2 (-1) 0) [(.ref a1), (.int 0), (.ref a20)])) rfl rfl (hb hby d5_107)
  obtain ⟨T29, X29, e29, st29⟩ := getF X28 hx hZ hown (host := "") (Or.inl (ww hw 32 rfl)) Via.refl e28 F8 (g := (mkF m 115 (lc21 a1 q2 (-1) 0) [(.ref a1), (.int 1), (.ref a20), (.int 0), (.ref a20)])) rfl rfl (hb hby d5_115)
  have f31 : Arv Z h0 a20 kc24 (.object zs1) (16 : Int32) [(.ref a23), .null] .null := F25.pad (pad_rep [(.ref a23)] .null 1)
  obtain ⟨cl30, Ar30, q30, -⟩ := id f31
  obtain ⟨T30, h30, L30, X30, e30, N30, K30, V30, st30⟩ := cpA X29 hx hZ hown (ww hw 54 rfl) (ww hw 57 rfl) (ww hw 55 rfl) (ww hw 56 rfl) e29 (us := [(.ref a23)]) f31 f31 (Or.inr ⟨rfl, rfl, ⟨(Sto.ofV Ar30 q30 O33 (Ins.self F34)), trivial⟩⟩) (by decide) (by decide) (by decide) (by decide) (by decide) rfl (Nat.le_of_ble_eq_true rfl) N18 g32 (g := (mkF m 121 (lc21 a1 q2 (-1) 0) [(.int 1), (.int 1), (.ref a20), (.int 0), (.ref a20)])) rfl (by rw [hml]; rfl) rfl (hb hby d5_121) (by decide) (W := 0) (by show 2 * 0 + _ ≤ _; exact Nat.le_of_eq rfl) (by decide)
  have f35 : Arv Z h30 a20 kc24 (.object zs1) (16 : Int32) [(.ref a23), (.ref a23)] .null := V30
  have f37 : Fld Z h30 a1 zs2 "ranks" "[J" (.ref a9) := (F10.keep K30 (ninS ne36 nin0))
  obtain ⟨T38, X38, e38, st38⟩ := getF X30 hx hZ hown (host := "") (Or.inl (ww hw 23 rfl)) Via.refl e30 f37 (g := (mkF m 125 (lc21 a1 q2 (-1) 0) [(.ref a1)])) rfl rfl (hb hby d5_125)
  obtain ⟨T39, X39, e39, st39⟩ := getF X38 hx hZ hown (host := "") (Or.inl (ww hw 23 rfl)) Via.refl e38 f37 (g := (mkF m 131 (lc21 a1 q2 (-1) 0) [(.ref a1), (.int 0), (.ref a9)])) rfl rfl (hb hby d5_131)
  have f40 : Fld Z h30 a1 zs2 "count" "I" (.int 1) := (F8.keep K30 (ninS ne36 nin0))
  obtain ⟨T41, X41, e41, st41⟩ := getF X39 hx hZ hown (host := "") (Or.inl (ww hw 32 rfl)) Via.refl e39 f40 (g := (mkF m 139 (lc21 a1 q2 (-1) 0) [(.ref a1), (.int 1), (.ref a9), (.int 0), (.ref a9)])) rfl rfl (hb hby d5_139)
  have f44 : Arv Z h30 a9 kc12 .long (16 : Int32) [(.long q11)] (.long (0 : Int64)) := (F13.keep K30 (ninS ne43 nin0))
  have f45 : Arv Z h30 a9 kc12 .long (16 : Int32) [(.long q11), (.long 0)] (.long (0 : Int64)) := f44.pad (pad_rep [(.long q11)] (.long (0 : Int64)) 1)
  obtain ⟨T42, h42, L42, X42, e42, N42, K42, V42, st42⟩ := cpA X41 hx hZ hown (ww hw 54 rfl) (ww hw 57 rfl) (ww hw 55 rfl) (ww hw 56 rfl) e41 (us := [(.long q11)]) f45 f45 (Or.inl ⟨rfl, rfl⟩) (by decide) (by decide) (by decide) (by decide) (by decide) rfl (Nat.le_of_ble_eq_true rfl) N30 g46 (g := (mkF m 145 (lc21 a1 q2 (-1) 0) [(.int 1), (.int 1), (.ref a9), (.int 0), (.ref a9)])) rfl (by rw [hml]; rfl) rfl (hb hby d5_145) (by decide) (W := 0) (by show 2 * 0 + _ ≤ _; exact Nat.le_of_eq rfl) (by decide)
  have f47 : Arv Z h42 a9 kc12 .long (16 : Int32) [(.long q11), (.long q11)] (.long (0 : Int64)) := V42
  obtain ⟨T48, h48, X48, e48, E48, A48, D48, -, st48⟩ := newO X42 hx hZ hown (ww hw 18 rfl) (ww hw 58 rfl) (ww hw 59 rfl) e42 (g := (mkF m 148 (lc21 a1 q2 (-1) 0) [])) rfl (hb hby d5_148) (by decide) (by decide)
  obtain ⟨b48, g48⟩ : ∃ z, z = h42.size := ⟨_, rfl⟩
  rw [← g48] at A48 D48 st48
  have f49 : Fld Z h48 b48 zs1 "price" zs10 .null := D48 (Or.inr (ww hw 65 rfl)) (ty := (.object zs13)) (by decide)
  have f50 : Fld Z h48 b48 zs1 "priceSteps" "J" (.long 0) := D48 (Or.inr (ww hw 67 rfl)) (ty := .long) (by decide)
  have f51 : Fld Z h48 b48 zs1 "first" zs11 .null := D48 (Or.inl (ww hw 78 rfl)) (ty := (.object zs14)) (by decide)
  have Z_1 : n0 ≤ h30.size := Nat.le_trans Z0 K30.1
  have Z_2 : n0 ≤ h42.size := Nat.le_trans Z_1 K42.1
  have g53 : n0 ≤ b48 := Nat.le_trans Z_2 (Nat.le_of_eq g48.symm)
  have Z_3 : n0 ≤ h48.size := Nat.le_trans Z_2 E48.1
  obtain ⟨_, T52, L52, X52, hQ52, st52⟩ := ocallI X48 hx hZ zm6 rfl hown (ww hw 60 rfl) (ww hw 61 rfl) (by decide) (ww hw 62 rfl) (ww hw 59 rfl) e48 (rm9_10 l Z a0 hw [] b48 q2 h48 n0 Z_3 f49 f50 f51 A48 g53) (st := [(.long q2), .null, (.ref b48), (.ref b48)]) rfl 1 rfl (by decide) (pc := 154) (Ls := (lc21 a1 q2 (-1) 0)) hml rfl (lenOf pd_5 rfl) d5_154 hby
  obtain ⟨rfl, N52q, K52, f54, f55, f56⟩ := hQ52
  have N57 := Fr.app N42 N52q
  have ne59 : a1 ≠ b48 := Nat.ne_of_lt (Nat.lt_of_lt_of_le (Nat.lt_of_lt_of_le (Nat.lt_of_lt_of_le (F5.lt) K30.1) K42.1) (Nat.le_of_eq g48.symm))
  have f60 : Fld Z T52.heap a1 zs2 "levels" zs3 (.ref a20) := ((Fld.ext E48 ((F21.keep K30 (ninS ne36 nin0)).keep K42 (ninS ne58 nin0))).keep K52 (ninS ne59 nin0))
  obtain ⟨T61, X61, e61, st61⟩ := getF X52 hx hZ hown (host := "") (Or.inl (ww hw 20 rfl)) Via.refl rfl f60 (g := (mkF m 160 (lc23 a1 q2 (-1) 0 b48) [(.ref a1)])) rfl rfl (hb hby d5_160)
  have ne62 : a20 ≠ b48 := Nat.ne_of_lt (Nat.lt_of_lt_of_le (Nat.lt_of_lt_of_le (f35.lt) K42.1) (Nat.le_of_eq g48.symm))
  have f63 : Arv Z T52.heap a20 kc24 (.object zs1) (16 : Int32) [(.ref a23), (.ref a23)] .null := (((f35.keep K42 (ninS (Ne.symm ne43) nin0)).ext E48).keep K52 (ninS ne62 nin0))
  have f64 : Exa Z T52.heap b48 zs1 := (A48.keep K52)
  obtain ⟨cl65, Ar65, q65, S65, N65, H65, G65⟩ := id f63
  have hin66 : ¬ ((0 : Int32) < 0 ∨ cl65.slots.size ≤ ((0 : Int32)).toNatClampNeg) := inb_of S65 ⟨by decide, by decide⟩
  obtain ⟨T66, h66, X66, e66, W66, st66⟩ := stR X61 hx hZ e61 Ar65 (j := (0 : Int32)) hin66 rfl (Sto.ofV Ar65 q65 O33 (Ins.self f64)) (g := (mkF m 167 (lc23 a1 q2 (-1) 0 b48) [(.ref b48), (.int 0), (.ref a20)])) rfl rfl (hb hby d5_167)
  have N67 := Fr.snoc X66 N57 g32
  have f68 : Arv Z h66 a20 kc24 (.object zs1) (16 : Int32) [(.ref b48), (.ref a23)] .null := Arv.set Ar65 q65 S65 N65 H65 G65 (by rfl) W66 0 rfl (Nat.le_of_ble_eq_true rfl)
  have f69 : Fld Z h66 a1 zs2 "ranks" "[J" (.ref a9) := (Fld.other W66 ((Fld.ext E48 (f37.keep K42 (ninS ne58 nin0))).keep K52 (ninS ne59 nin0)) (Or.inl ne36))
  obtain ⟨T70, X70, e70, st70⟩ := getF X66 hx hZ hown (host := "") (Or.inl (ww hw 23 rfl)) Via.refl e66 f69 (g := (mkF m 169 (lc23 a1 q2 (-1) 0 b48) [(.ref a1)])) rfl rfl (hb hby d5_169)
  have f72 : Fld Z h66 a1 zs2 "side" zs4 (.ref a4) := (Fld.other W66 ((Fld.ext E48 ((F5.keep K30 (ninS ne36 nin0)).keep K42 (ninS ne58 nin0))).keep K52 (ninS ne59 nin0)) (Or.inl ne36))
  have f73 : Sta Z h66 zs6 "BUY" zs4 (.ref a4) := (Sta.wr W66 (own_staK (Sta.ext E48 (own_staK (own_staK F6 K30 (allS (own_nsV f31) all0)) K42 (allS (own_nsV f45) all0))) K52 (allS (own_nsF f49) all0)))
  have Z_4 : n0 ≤ T52.heap.size := Nat.le_trans Z_3 K52.1
  have Z_5 : n0 ≤ h66.size := Nat.le_trans Z_4 (Keep.of_wr W66).1
  have f74 : Exa Z h66 a1 zs2 := (Exa.wr W66 ((Exa.ext E48 ((F7.keep K30).keep K42)).keep K52))
  obtain ⟨_, T71, L71, X71, hQ71, st71⟩ := ocallP X70 hx hZ zm3 hown (ww hw 43 rfl) (ww hw 44 rfl) (own_selP (mvT hZ (ww hw 10 rfl)) (mvP hZ (ww hw 45 rfl)) (mvT hZ (ww hw 44 rfl)) (by decide)) (ww hw 45 rfl) (by decide) (ww hw 46 rfl) (ww hw 11 rfl) e70 f74 (rm7_6 l Z a0 hw [] a1 q2 a4 h66 n0 Z_5 f72 f73) (st := [(.long q2), (.ref a1), (.int 0), (.ref a9)]) rfl 2 rfl (by decide) (pc := 176) (Ls := (lc23 a1 q2 (-1) 0 b48)) hml rfl (lenOf pd_0 rfl) d5_176 hby
  obtain ⟨rfl, N71q, e71⟩ := hQ71
  have N75 := Fr.app N67 N71q
  have ne76 : a9 ≠ b48 := Nat.ne_of_lt (Nat.lt_of_lt_of_le (f47.lt) (Nat.le_of_eq g48.symm))
  have f77 : Arv Z h66 a9 kc12 .long (16 : Int32) [(.long q11), (.long q11)] (.long (0 : Int64)) := (((f47.ext E48).keep K52 (ninS ne76 nin0)).other W66 ne43)
  obtain ⟨cl78, Ar78, q78, S78, N78, H78, G78⟩ := id f77
  have hin79 : ¬ ((0 : Int32) < 0 ∨ cl78.slots.size ≤ ((0 : Int32)).toNatClampNeg) := inb_of S78 ⟨by decide, by decide⟩
  obtain ⟨T79, h79, X79, e79, W79, st79⟩ := stJ X71 hx hZ e71 Ar78 (j := (0 : Int32)) hin79 (g := (mkF m 179 (lc23 a1 q2 (-1) 0 b48) [(.long q2), (.int 0), (.ref a9)])) rfl rfl (hb hby d5_179)
  have N80 := Fr.snoc X79 N75 g46
  have f81 : Arv Z h79 a9 kc12 .long (16 : Int32) [(.long q2), (.long q11)] (.long (0 : Int64)) := Arv.set Ar78 q78 S78 N78 H78 G78 (by rfl) W79 0 rfl (Nat.le_of_ble_eq_true rfl)
  have f82 : Fld Z h79 a1 zs2 "count" "I" (.int 1) := (Fld.other W79 (Fld.other W66 ((Fld.ext E48 (f40.keep K42 (ninS ne58 nin0))).keep K52 (ninS ne59 nin0)) (Or.inl ne36)) (Or.inl ne58))
  obtain ⟨T83, X83, e83, st83⟩ := getF X79 hx hZ hown (host := "") (Or.inl (ww hw 32 rfl)) Via.refl e79 f82 (g := (mkF m 182 (lc23 a1 q2 (-1) 0 b48) [(.ref a1), (.ref a1)])) rfl rfl (hb hby d5_182)
  have f85 : Exa Z h79 a1 zs2 := (Exa.wr W79 f74)
  obtain ⟨T86, h86, X86, e86, W86, st86⟩ := putF X83 hx hZ hown (host := "") (Or.inl (ww hw 32 rfl)) Via.refl e83 f82 f85 (Or.inl (ww hw 33 rfl)) (ww hw 10 rfl) (ty := .int) (by decide) rfl rfl (g := (mkF m 187 (lc23 a1 q2 (-1) 0 b48) [(.int 2), (.ref a1)])) rfl rfl (hb hby d5_187)
  have N88 := Fr.snoc X86 N80 g87
  have f89 : Fld Z h86 a1 zs2 "count" "I" (.int 2) := Fld.same W86 f82
  refine own_go (U' := T86.setTop (mkF m 192 (lc23 a1 q2 (-1) 0 b48) [(.ref b48)])) (fun t k => oicY (pc := 60) X22 hx hby d5_60 100 (by decide) (by decide) (oaloadN X22 hx hby d5_100 rfl rfl (st27 _ (oiload X27 hx hby d5_104 rfl (oaloadN X27 hx hby d5_106 rfl rfl (st28 _ (oiload X28 hx hby d5_110 rfl (oiconst X28 hx hby d5_112 (oiadd X28 hx hby d5_113 (oaloadN X28 hx hby d5_114 rfl rfl (st29 _ (oiload X29 hx hby d5_118 rfl (oisub X29 hx hby d5_120 (st30 _ (oaloadN X30 hx hby d5_124 rfl rfl (st38 _ (oiload X38 hx hby d5_128 rfl (oaloadN X38 hx hby d5_130 rfl rfl (st39 _ (oiload X39 hx hby d5_134 rfl (oiconst X39 hx hby d5_136 (oiadd X39 hx hby d5_137 (oaloadN X39 hx hby d5_138 rfl rfl (st41 _ (oiload X41 hx hby d5_142 rfl (oisub X41 hx hby d5_144 (st42 _ (st48 _ (odup X48 hx hby d5_151 rfl (oaloadN X48 hx hby d5_152 rfl rfl (olloadN X48 hx hby d5_153 rfl (st52 _ (oastore X52 hx hby d5_157 (lc23 a1 q2 (-1) 0 b48) rfl rfl (oaloadN X52 hx hby d5_159 rfl rfl (st61 _ (oiload X61 hx hby d5_163 rfl (oaload X61 hx hby d5_165 rfl rfl (st66 _ (oaloadN X66 hx hby d5_168 rfl rfl (st70 _ (oiload X70 hx hby d5_172 rfl (oaloadN X70 hx hby d5_174 rfl rfl (olloadN X70 hx hby d5_175 rfl (st71 _ (st79 _ (oaloadN X79 hx hby d5_180 rfl rfl (odup X79 hx hby d5_181 rfl (st83 _ (oiconst X83 hx hby d5_185 (oiadd X83 hx hby d5_186 (st86 _ (oaload X86 hx hby d5_190 rfl rfl k)))))))))))))))))))))))))))))))))))))))))))))))))))) ?_
  have f90 : Arv Z h86 a20 kc24 (.object zs1) (16 : Int32) [(.ref b48), (.ref a23)] .null := ((f68.other W79 (Ne.symm ne43)).other W86 (Ne.symm ne36))
  have f91 : Arv Z h86 a9 kc12 .long (16 : Int32) [(.long q2), (.long q11)] (.long (0 : Int64)) := (f81.other W86 (Ne.symm ne58))
  have f92 : Fld Z h86 a1 zs2 "side" zs4 (.ref a4) := (Fld.other W86 (Fld.other W79 f72 (Or.inl ne58)) (Or.inr (slot_ne (Or.inr (ww hw 26 rfl)) (Or.inl (ww hw 33 rfl)) (by decide) (t := (.object zs6)) (t' := .int) (by decide) (by decide))))
  have f93 : Fld Z h86 a1 zs2 "ranks" "[J" (.ref a9) := (Fld.other W86 (Fld.other W79 f69 (Or.inl ne58)) (Or.inr (slot_ne (Or.inl (ww hw 24 rfl)) (Or.inl (ww hw 33 rfl)) (by decide) (t := (.array .long)) (t' := .int) (by decide) (by decide))))
  have f94 : Fld Z h86 a1 zs2 "levels" zs3 (.ref a20) := (Fld.other W86 (Fld.other W79 (Fld.other W66 f60 (Or.inl ne36)) (Or.inl ne58)) (Or.inr (slot_ne (Or.inl (ww hw 21 rfl)) (Or.inl (ww hw 33 rfl)) (by decide) (t := (.array (.object zs1))) (t' := .int) (by decide) (by decide))))
  have f95 : Fld Z h86 a1 zs2 "emptyLevels" "I" (.int 0) := (Fld.other W86 (Fld.other W79 (Fld.other W66 ((Fld.ext E48 ((F84.keep K30 (ninS ne36 nin0)).keep K42 (ninS ne58 nin0))).keep K52 (ninS ne59 nin0)) (Or.inl ne36)) (Or.inl ne58)) (Or.inr (slot_ne (Or.inl (ww hw 80 rfl)) (Or.inl (ww hw 33 rfl)) (by decide) (t := .int) (t' := .int) (by decide) (by decide))))
  have f96 : Exa Z h86 b48 zs1 := (Exa.wr W86 (Exa.wr W79 (Exa.wr W66 f64)))
  have f97 : Fld Z h86 b48 zs1 "price" zs10 .null := (Fld.other W86 (Fld.other W79 (Fld.other W66 f54 (Or.inl (Ne.symm ne62))) (Or.inl (Ne.symm ne76))) (Or.inl (Ne.symm ne59)))
  have f98 : Fld Z h86 b48 zs1 "priceSteps" "J" (.long q2) := (Fld.other W86 (Fld.other W79 (Fld.other W66 f55 (Or.inl (Ne.symm ne62))) (Or.inl (Ne.symm ne76))) (Or.inl (Ne.symm ne59)))
  have f99 : Fld Z h86 b48 zs1 "first" zs11 .null := (Fld.other W86 (Fld.other W79 (Fld.other W66 f56 (Or.inl (Ne.symm ne62))) (Or.inl (Ne.symm ne76))) (Or.inl (Ne.symm ne59)))
  obtain ⟨fs, hr, hrun, hended, hW, hsame⟩ := X86.leave (v := some (.ref b48)) (fun h => by rw [Bd.returns] at h; cases h)
  refine own_out ⟨_, _, ?_, hrun, hended, _, _, rfl, ?_, ⟨_, rfl⟩, hW, hsame.mono (by decide) (by decide)⟩
  · exact retOut X86 hx Bd.returns rfl (Or.inr (Or.inr (Or.inr (Or.inr ⟨rfl, rfl, rfl⟩)))) (hb hby d5_192) hr
  · show Q5_47 Z a1 q2 a4 a9 q11 kc12 a20 a23 kc24 h0 n0 _ T86.heap _
    rw [e86]
    exact ⟨b48, rfl, N88, ((((Keep.trans ((Keep.trans (Keep.trans (Keep.refl h0 [a20, a9, a1]) K30 (allS (Or.inl (List.mem_of_getElem? (i := 0) rfl)) all0)) K42 (allS (Or.inl (List.mem_of_getElem? (i := 1) rfl)) all0)).ext E48) K52 (allS (Or.inr (Nat.le_trans K30.1 (Nat.le_trans K42.1 (Nat.le_of_eq g48.symm)))) all0)).wr W66 (Or.inl (List.mem_of_getElem? (i := 0) rfl))).wr W79 (Or.inl (List.mem_of_getElem? (i := 1) rfl))).wr W86 (Or.inl (List.mem_of_getElem? (i := 2) rfl))), (Nat.le_trans K30.1 (Nat.le_trans K42.1 (Nat.le_of_eq g48.symm))), f90, f91, f92, f89, f93, f94, f95, f96, f97, f98, f99⟩
def Q7_48 (Z : State) (a1 : Addr) (q2 : Int64) (a3 : Addr) (a6 : Addr) (h0 : Heap) (n0 : Nat) (v : Option Value) (h : Heap) (L : List Loc) : Prop := v = some (.long (q2 ^^^ (-1 : Int64))) ∧ Fr n0 L ∧ h = h0
set_option maxRecDepth 65536 in
set_option maxHeartbeats 40000000 in
theorem rm7_48 (l : Launch) (Z : State) (a0 : Array Value) (hw : ∀ d ∈ tables_1, d.before a0 Z = true) (ws : List Jvm.Cond) (a1 : Addr) (q2 : Int64) (a3 : Addr) (a6 : Addr) (h0 : Heap) (n0 : Nat) (Z0 : n0 ≤ h0.size) (F4 : Fld Z h0 a1 zs2 "side" zs4 (.ref a3)) (F7 : Sta Z h0 zs6 "BUY" zs4 (.ref a6)) (ha9 : a3 ≠ a6) :
    MetFree l zm3 (head1 (Jvm.Cond.code zm3 prog_2_method_7_code 3 (some .long) :: ws) ({ frames := 0, cells := 0, slots := 0, locals := 0 } : Room)) (fun a U => a = #[(.ref a1), (.long q2)] ∧ Z.Warmed39 U.vm ∧ U.heap = h0) (fun _ _ _ _ _ => True) (fun _ U o U' => ∃ v L, o = .returned v ∧ Q7_48 Z a1 q2 a3 a6 h0 n0 v U'.heap L ∧ FrameEnd U o U' L ({ frames := 0, cells := 0, slots := 0, locals := 0 } : Room).cells ({ frames := 0, cells := 0, slots := 0, locals := 0 } : Room).slots) := by
  refine MetFree.of_bodySF (plainFor_of_name pn_com_example_srok_srok_engine_BookSide) hisR ?_
  intro p e s m args below meth c s₁ Bd hml0 hP hK
  obtain ⟨rfl, hZ, hh⟩ := hP
  have hx := Bd.exec
  have hby := Bd.bytes
  have hml : c.maxLocals = 3 := hml0
  have hown : s.vm.findClass zs2 = some m.cls := findClass_of_methodNamed Bd.named
  have hnm := (name_of_methodNamed Bd.named Bd.method).1
  have X0 : Stand p l e ({ frames := 0, cells := 0, slots := 0, locals := 0 } : Room) s m #[(.ref a1), (.long q2)] below meth c s₁ [] 0 0 := Stand.of_body Bd
  have e0 : s₁.heap = h0 := by rw [← hh, Bd.state]; rfl
  have N0 := Fr.nil n0
  refine own_pre (g' := mkF m 0 (lc12 a1 q2) []) (ef_3 m a1 q2) ?_
  obtain ⟨T5, X5, e5, st5⟩ := getF X0 hx hZ hown (host := "") (Or.inl (ww hw 25 rfl)) Via.refl e0 F4 (g := (mkF m 1 (lc12 a1 q2) [(.ref a1)])) rfl rfl (hb hby d7_1)
  obtain ⟨T8, X8, e8, st8⟩ := getS2 X5 hx hZ hown (host := "") (Or.inl (ww hw 47 rfl)) Via.refl e5 F7 (g := (mkF m 4 (lc12 a1 q2) [(.ref a3)])) rfl (hb hby d7_4)
  refine own_go (U' := T8.setTop (mkF m 19 (lc12 a1 q2) [(.long (q2 ^^^ (-1 : Int64)))])) (fun t k => oaloadN X0 hx hby d7_0 rfl rfl (st5 _ (st8 _ (oacmp (pc := 7) X8 hx hby d7_7 14 (same := false) rfl rfl (decide_eq_false fun q => ha9 (Value.ref.inj q)) (by decide) (olloadN X8 hx hby d7_14 rfl (X8.ldc2Long hx hown (mvT hZ (ww hw 83 rfl)) (g := (mkF m 15 (lc12 a1 q2) [(.long q2)])) rfl (hb hby d7_15) _ (olxor X8 hx hby d7_18 k))))))) ?_
  obtain ⟨fs, hr, hrun, hended, hW, hsame⟩ := X8.leave (v := some (.long (q2 ^^^ (-1 : Int64)))) (fun h => by rw [Bd.returns] at h; cases h)
  refine own_out ⟨_, _, ?_, hrun, hended, _, _, rfl, ?_, ⟨_, rfl⟩, hW, hsame.mono (by decide) (by decide)⟩
  · exact retOut X8 hx Bd.returns rfl (Or.inr (Or.inl ⟨rfl, rfl, _, rfl⟩)) (hb hby d7_19) hr
  · show Q7_48 Z a1 q2 a3 a6 h0 n0 _ T8.heap _
    rw [e8]
    exact ⟨rfl, N0, rfl⟩
def Q6_49 (Z : State) (a1 : Addr) (q2 : Int64) (a4 : Addr) (a6 : Addr) (h0 : Heap) (n0 : Nat) (v : Option Value) (h : Heap) (L : List Loc) : Prop := v = some (.int (-1)) ∧ Fr n0 L ∧ h = h0
set_option maxRecDepth 65536 in
set_option maxHeartbeats 40000000 in
theorem rm6_49 (l : Launch) (Z : State) (a0 : Array Value) (hw : ∀ d ∈ tables_1, d.before a0 Z = true) (ws : List Jvm.Cond) (a1 : Addr) (q2 : Int64) (a4 : Addr) (a6 : Addr) (h0 : Heap) (n0 : Nat) (Z0 : n0 ≤ h0.size) (F5 : Fld Z h0 a1 zs2 "side" zs4 (.ref a4)) (F7 : Sta Z h0 zs6 "BUY" zs4 (.ref a6)) (ha8 : a4 ≠ a6) (F9 : Exa Z h0 a1 zs2) (F12 : Fld Z h0 a1 zs2 "count" "I" (.int 0)) (hc16 : ¬ ((q2 ^^^ (-1 : Int64)) = (-9223372036854775808 : Int64))) (hc18 : ¬ ((q2 ^^^ (-1 : Int64)) = (9223372036854775807 : Int64))) :
    MetFree l zm5 (head1 (Jvm.Cond.code zm5 prog_2_method_8_code 11 (some .int) :: ws) ({ frames := 1, cells := 0, slots := 0, locals := 14 } : Room)) (fun a U => a = #[(.ref a1), (.long q2), .null] ∧ Z.Warmed39 U.vm ∧ U.heap = h0) (fun _ _ _ _ _ => True) (fun _ U o U' => ∃ v L, o = .returned v ∧ Q6_49 Z a1 q2 a4 a6 h0 n0 v U'.heap L ∧ FrameEnd U o U' L ({ frames := 1, cells := 0, slots := 0, locals := 14 } : Room).cells ({ frames := 1, cells := 0, slots := 0, locals := 14 } : Room).slots) := by
  refine MetFree.of_bodySF (plainFor_of_name pn_com_example_srok_srok_engine_BookSide) hisR ?_
  intro p e s m args below meth c s₁ Bd hml0 hP hK
  obtain ⟨rfl, hZ, hh⟩ := hP
  have hx := Bd.exec
  have hby := Bd.bytes
  have hml : c.maxLocals = 11 := hml0
  have hown : s.vm.findClass zs2 = some m.cls := findClass_of_methodNamed Bd.named
  have hnm := (name_of_methodNamed Bd.named Bd.method).1
  have X0 : Stand p l e ({ frames := 1, cells := 0, slots := 0, locals := 14 } : Room) s m #[(.ref a1), (.long q2), .null] below meth c s₁ [] 0 0 := Stand.of_body Bd
  have e0 : s₁.heap = h0 := by rw [← hh, Bd.state]; rfl
  have N0 := Fr.nil n0
  refine own_pre (g' := mkF m 0 (lc11 a1 q2) []) (ef_5 m a1 q2) ?_
  obtain ⟨_, T3, L3, X3, hQ3, st3⟩ := ocallP X0 hx hZ zm3 hown (ww hw 43 rfl) (ww hw 44 rfl) (own_selP (mvT hZ (ww hw 10 rfl)) (mvP hZ (ww hw 45 rfl)) (mvT hZ (ww hw 44 rfl)) (by decide)) (ww hw 45 rfl) (by decide) (ww hw 46 rfl) (ww hw 11 rfl) e0 F9 (rm7_48 l Z a0 hw [] a1 q2 a4 a6 h0 n0 Z0 F5 F7 ha8) (st := [(.long q2), (.ref a1)]) rfl 0 rfl (by decide) (pc := 2) (Ls := (lc11 a1 q2)) hml rfl (lenOf pd_0 rfl) d6_2 hby
  obtain ⟨rfl, N3q, e3⟩ := hQ3
  have N10 := Fr.app N0 N3q
  refine own_go (U' := T3.setTop (mkF m 7 (lc13 a1 q2 (q2 ^^^ (-1 : Int64))) [])) (fun t k => oaloadN X0 hx hby d6_0 rfl rfl (olloadN X0 hx hby d6_1 rfl (st3 _ (olstore X3 hx hby d6_5 (lc13 a1 q2 (q2 ^^^ (-1 : Int64))) rfl k)))) ?_
  obtain ⟨z11, hz11⟩ : ∃ z, z = (q2 ^^^ (-1 : Int64)) := ⟨_, rfl⟩
  rw [← hz11]
  obtain ⟨T13, X13, e13, st13⟩ := getF X3 hx hZ hown (host := "") (Or.inl (ww hw 32 rfl)) Via.refl e3 F12 (g := (mkF m 8 (lc13 a1 q2 z11) [(.ref a1)])) rfl rfl (hb hby d6_8)
  refine own_go (U' := T13.setTop (mkF m 21 (lc15 a1 q2 z11 0 1) [(.int ((0 : Int32) - (1 : Int32)))])) (fun t k => oaloadN X3 hx hby d6_7 rfl rfl (st13 _ (oistore X13 hx hby d6_11 (lc14 a1 q2 z11 0) rfl (oiconst X13 hx hby d6_13 (oistore X13 hx hby d6_14 (lc15 a1 q2 z11 0 1) rfl (oiload X13 hx hby d6_16 rfl (oiload X13 hx hby d6_18 rfl (oisub X13 hx hby d6_20 k)))))))) ?_
  rw [show ((0 : Int32) - (1 : Int32)) = (-1 : Int32) from by decide]
  refine own_go (U' := T13.setTop (mkF m 62 (lc15 a1 q2 z11 0 1) [(.int ((0 : Int32) - (1 : Int32))), (.int 0)])) (fun t k => oifY (pc := 21) X13 hx hby d6_21 56 (by decide) (by decide) (oiconst X13 hx hby d6_56 (oiload X13 hx hby d6_57 rfl (oiload X13 hx hby d6_59 rfl (oisub X13 hx hby d6_61 k))))) ?_
  rw [show ((0 : Int32) - (1 : Int32)) = (-1 : Int32) from by decide]
  refine own_go (U' := T13.setTop (mkF m 64 (lc15 a1 q2 z11 0 1) [(.int ((-1 : Int32) + (1 : Int32))), (.int 0)])) (fun t k => oiconst X13 hx hby d6_62 (oiadd X13 hx hby d6_63 k)) ?_
  rw [show ((-1 : Int32) + (1 : Int32)) = (0 : Int32) from by decide]
  obtain ⟨_, T14, L14, X14, hQ14, st14⟩ := ocallS X13 hx hZ zm4 hown (ww hw 48 rfl) (ww hw 49 rfl) (by decide) (ww hw 51 rfl) (ww hw 50 rfl) e13 (rm8_7 l Z a0 hw []  h0 n0 Z0 ) (st := [(.int 0), (.int 0)]) rfl 0 rfl (by decide) (pc := 64) (Ls := (lc15 a1 q2 z11 0 1)) hml rfl (lenOf pd_3 rfl) d6_64 hby
  obtain ⟨rfl, N14q, e14⟩ := hQ14
  have N15 := Fr.app N10 N14q
  refine own_go (U' := T14.setTop (mkF m 79 (lc18 a1 q2 z11 0 1 0 0) [(.int 1), (.int 0)])) (fun t k => st14 _ (oistore X14 hx hby d6_67 (lc17 a1 q2 z11 0 1 0) rfl (oiload X14 hx hby d6_69 rfl (oiload X14 hx hby d6_71 rfl (oisub X14 hx hby d6_73 (oistore X14 hx hby d6_74 (lc18 a1 q2 z11 0 1 0 0) rfl (oiload X14 hx hby d6_76 rfl (oiconst X14 hx hby d6_78 k)))))))) ?_
  refine own_go (U' := T14.setTop (mkF m 132 (lc18 a1 q2 z11 0 1 0 0) [(.int 0), (.int 0)])) (fun t k => oicY (pc := 79) X14 hx hby d6_79 128 (by decide) (by decide) (oiload X14 hx hby d6_128 rfl (oiload X14 hx hby d6_130 rfl k))) ?_
  refine own_go (U' := T14.setTop (mkF m 157 (lc18 a1 q2 z11 0 1 0 0) [(.int (lcmpW z11 (-9223372036854775808 : Int64)))])) (fun t k => oicY (pc := 132) X14 hx hby d6_132 151 (by decide) (by decide) (olload X14 hx hby d6_151 rfl (X14.ldc2Long hx hown (mvT hZ (ww hw 52 rfl)) (g := (mkF m 153 (lc18 a1 q2 z11 0 1 0 0) [(.long z11)])) rfl (hb hby d6_153) _ (olcmp X14 hx hby d6_156 k)))) ?_
  have hs17 : ¬ (z11 = (-9223372036854775808 : Int64)) := by rw [hz11]; exact hc16
  refine own_go (U' := T14.setTop (mkF m 166 (lc18 a1 q2 z11 0 1 0 0) [(.int (lcmpW z11 (9223372036854775807 : Int64)))])) (fun t k => oifN X14 hx hby d6_157 (own_ll_eq_f hs17) (olload X14 hx hby d6_160 rfl (X14.ldc2Long hx hown (mvT hZ (ww hw 53 rfl)) (g := (mkF m 162 (lc18 a1 q2 z11 0 1 0 0) [(.long z11)])) rfl (hb hby d6_162) _ (olcmp X14 hx hby d6_165 k)))) ?_
  have hs19 : ¬ (z11 = (9223372036854775807 : Int64)) := by rw [hz11]; exact hc18
  refine own_go (U' := T14.setTop (mkF m 178 (lc18 a1 q2 z11 0 1 0 1) [(.int 1)])) (fun t k => oifN X14 hx hby d6_166 (own_ll_eq_f hs19) (oiconst X14 hx hby d6_169 (ogoto (pc := 170) X14 hx hby d6_170 174 (by decide) (oistore X14 hx hby d6_174 (lc18 a1 q2 z11 0 1 0 1) rfl (oiload X14 hx hby d6_176 rfl k))))) ?_
  obtain ⟨T20, X20, e20, st20⟩ := getF X14 hx hZ hown (host := "") (Or.inl (ww hw 32 rfl)) Via.refl e14 F12 (g := (mkF m 230 (lc18 a1 q2 z11 0 1 0 1) [(.ref a1), (.int 0)])) rfl rfl (hb hby d6_230)
  refine own_go (U' := T20.setTop (mkF m 233 (lc18 a1 q2 z11 0 1 0 1) [(.int 0), (.int 0)])) (fun t k => oifY (pc := 178) X14 hx hby d6_178 227 (by decide) (by decide) (oiload X14 hx hby d6_227 rfl (oaloadN X14 hx hby d6_229 rfl rfl (st20 _ k)))) ?_
  refine own_go (U' := T20.setTop (mkF m 280 (lc19 a1 q2 z11 0 1 0 1 0) [(.int 0)])) (fun t k => oicY (pc := 233) X20 hx hby d6_233 275 (by decide) (by decide) (oiconst X20 hx hby d6_275 (oistore X20 hx hby d6_276 (lc19 a1 q2 z11 0 1 0 1 0) rfl (oiload X20 hx hby d6_278 rfl k)))) ?_
  refine own_go (U' := T20.setTop (mkF m 292 (lc19 a1 q2 z11 0 1 0 1 0) [(.int ((-1 : Int32) - (0 : Int32)))])) (fun t k => oifY (pc := 280) X20 hx hby d6_280 288 (by decide) (by decide) (oiconst X20 hx hby d6_288 (oiload X20 hx hby d6_289 rfl (oisub X20 hx hby d6_291 k)))) ?_
  rw [show ((-1 : Int32) - (0 : Int32)) = (-1 : Int32) from by decide]
  obtain ⟨fs, hr, hrun, hended, hW, hsame⟩ := X20.leave (v := some (.int (-1))) (fun h => by rw [Bd.returns] at h; cases h)
  refine own_out ⟨_, _, ?_, hrun, hended, _, _, rfl, ?_, ⟨_, rfl⟩, hW, hsame.mono (by decide) (by decide)⟩
  · exact retI X20 hx Bd.returns (hb hby d6_292) hr
  · show Q6_49 Z a1 q2 a4 a6 h0 n0 _ T20.heap _
    rw [e20]
    exact ⟨rfl, N15, rfl⟩
def Qmg6_50 (Z : State) (a1 : Addr) (q2 : Int64) (a3 : Addr) (a5 : Addr) (h0 : Heap) (n0 : Nat) (v : Option Value) (h : Heap) (L : List Loc) : Prop := v = some (.int (-1)) ∧ Fr n0 L ∧ h = h0
theorem mg6_50 (l : Launch) (Z : State) (a0 : Array Value) (hw : ∀ d ∈ tables_1, d.before a0 Z = true) (ws : List Jvm.Cond) (a1 : Addr) (q2 : Int64) (a3 : Addr) (a5 : Addr) (h0 : Heap) (n0 : Nat) (Z0 : n0 ≤ h0.size) (F4 : Fld Z h0 a1 zs2 "side" zs4 (.ref a3)) (F6 : Sta Z h0 zs6 "BUY" zs4 (.ref a5)) (ha7 : a3 ≠ a5) (F8 : Exa Z h0 a1 zs2) (F9 : Fld Z h0 a1 zs2 "count" "I" (.int 0)) (hc10 : ¬ ((q2 ^^^ (-1 : Int64)) = (-9223372036854775808 : Int64))) (hc11 : ¬ ((q2 ^^^ (-1 : Int64)) = (9223372036854775807 : Int64))) :
    MetFree l zm5 (head1 (Jvm.Cond.code zm5 prog_2_method_8_code 11 (some .int) :: ws) ({ frames := 1, cells := 0, slots := 0, locals := 14 } : Room)) (fun a U => a = #[(.ref a1), (.long q2), .null] ∧ Z.Warmed39 U.vm ∧ U.heap = h0) (fun _ _ _ _ _ => True) (fun _ U o U' => ∃ v L, o = .returned v ∧ Qmg6_50 Z a1 q2 a3 a5 h0 n0 v U'.heap L ∧ FrameEnd U o U' L ({ frames := 1, cells := 0, slots := 0, locals := 14 } : Room).cells ({ frames := 1, cells := 0, slots := 0, locals := 14 } : Room).slots) := by
  exact rm6_49 l Z a0 hw ws a1 q2 a3 a5 h0 n0 Z0 F4 F6 ha7 F8 F9 hc10 hc11
def Q5_51 (Z : State) (a1 : Addr) (q2 : Int64) (a4 : Addr) (a6 : Addr) (a15 : Addr) (kc18 : ClassId) (a29 : Addr) (kc38 : ClassId) (h0 : Heap) (n0 : Nat) (v : Option Value) (h : Heap) (L : List Loc) : Prop := ∃ b45 : Addr, v = some (.ref b45) ∧ Fr n0 L ∧ Keep h0 h [a15, a29, a1] ∧ h0.size ≤ b45 ∧ Arv Z h a15 kc18 (.object zs1) (16 : Int32) [(.ref b45)] .null ∧ Arv Z h a29 kc38 .long (16 : Int32) [(.long (q2 ^^^ (-1 : Int64)))] (.long (0 : Int64)) ∧ Fld Z h a1 zs2 "side" zs4 (.ref a4) ∧ Fld Z h a1 zs2 "count" "I" (.int 1) ∧ Fld Z h a1 zs2 "levels" zs3 (.ref a15) ∧ Fld Z h a1 zs2 "ranks" "[J" (.ref a29) ∧ Fld Z h a1 zs2 "emptyLevels" "I" (.int 0) ∧ Exa Z h b45 zs1 ∧ Fld Z h b45 zs1 "price" zs10 .null ∧ Fld Z h b45 zs1 "priceSteps" "J" (.long q2) ∧ Fld Z h b45 zs1 "first" zs11 .null
set_option maxRecDepth 65536 in
set_option maxHeartbeats 40000000 in
theorem rm5_51 (l : Launch) (Z : State) (a0 : Array Value) (hw : ∀ d ∈ tables_1, d.before a0 Z = true) (ws : List Jvm.Cond) (a1 : Addr) (q2 : Int64) (a4 : Addr) (a6 : Addr) (a15 : Addr) (kc18 : ClassId) (a29 : Addr) (kc38 : ClassId) (h0 : Heap) (n0 : Nat) (Z0 : n0 ≤ h0.size) (F5 : Fld Z h0 a1 zs2 "side" zs4 (.ref a4)) (F7 : Sta Z h0 zs6 "BUY" zs4 (.ref a6)) (ha8 : a4 ≠ a6) (F9 : Exa Z h0 a1 zs2) (F10 : Fld Z h0 a1 zs2 "count" "I" (.int 0)) (hc11 : ¬ ((q2 ^^^ (-1 : Int64)) = (-9223372036854775808 : Int64))) (hc12 : ¬ ((q2 ^^^ (-1 : Int64)) = (9223372036854775807 : Int64))) (F16 : Fld Z h0 a1 zs2 "levels" zs3 (.ref a15)) (F19 : Arv Z h0 a15 kc18 (.object zs1) (16 : Int32) [] .null) (g26 : n0 ≤ a15) (O27 : Ovr Z kc18 zs1) (F30 : Fld Z h0 a1 zs2 "ranks" "[J" (.ref a29)) (ne31 : a1 ≠ a15) (F39 : Arv Z h0 a29 kc38 .long (16 : Int32) [] (.long (0 : Int64))) (ne40 : a29 ≠ a15) (g43 : n0 ≤ a29) (ne55 : a1 ≠ a29) (F81 : Fld Z h0 a1 zs2 "emptyLevels" "I" (.int 0)) (g84 : n0 ≤ a1) :
    MetFree l zm7 (head1 (Jvm.Cond.code zm7 prog_2_method_5_code 7 (some (.object zs1)) :: ws) ({ frames := 2, cells := 1, slots := 4, locals := 36 } : Room)) (fun a U => a = #[(.ref a1), (.long q2), .null] ∧ Z.Warmed39 U.vm ∧ U.heap = h0) (fun _ _ _ _ _ => True) (fun _ U o U' => ∃ v L, o = .returned v ∧ Q5_51 Z a1 q2 a4 a6 a15 kc18 a29 kc38 h0 n0 v U'.heap L ∧ FrameEnd U o U' L ({ frames := 2, cells := 1, slots := 4, locals := 36 } : Room).cells ({ frames := 2, cells := 1, slots := 4, locals := 36 } : Room).slots) := by
  refine MetFree.of_bodySF (plainFor_of_name pn_com_example_srok_srok_engine_BookSide) hisR ?_
  intro p e s m args below meth c s₁ Bd hml0 hP hK
  obtain ⟨rfl, hZ, hh⟩ := hP
  have hx := Bd.exec
  have hby := Bd.bytes
  have hml : c.maxLocals = 7 := hml0
  have hown : s.vm.findClass zs2 = some m.cls := findClass_of_methodNamed Bd.named
  have hnm := (name_of_methodNamed Bd.named Bd.method).1
  have X0 : Stand p l e ({ frames := 2, cells := 1, slots := 4, locals := 36 } : Room) s m #[(.ref a1), (.long q2), .null] below meth c s₁ [] 0 0 := Stand.of_body Bd
  have e0 : s₁.heap = h0 := by rw [← hh, Bd.state]; rfl
  have N0 := Fr.nil n0
  refine own_pre (g' := mkF m 0 (lc10 a1 q2) []) (ef_7 m a1 q2) ?_
  obtain ⟨_, T3, L3, X3, hQ3, st3⟩ := ocallP X0 hx hZ zm5 hown (ww hw 39 rfl) (ww hw 40 rfl) (own_selP (mvT hZ (ww hw 10 rfl)) (mvP hZ (ww hw 41 rfl)) (mvT hZ (ww hw 40 rfl)) (by decide)) (ww hw 41 rfl) (by decide) (ww hw 42 rfl) (ww hw 11 rfl) e0 F9 (mg6_50 l Z a0 hw [] a1 q2 a4 a6 h0 n0 Z0 F5 F7 ha8 F9 F10 hc11 hc12) (st := [.null, (.long q2), (.ref a1)]) rfl 0 rfl (by decide) (pc := 3) (Ls := (lc10 a1 q2)) hml rfl (lenOf pd_4 rfl) d5_3 hby
  obtain ⟨rfl, N3q, e3⟩ := hQ3
  have N13 := Fr.app N0 N3q
  refine own_go (U' := T3.setTop (mkF m 10 (lc20 a1 q2 (-1)) [(.int (-1))])) (fun t k => oaloadN X0 hx hby d5_0 rfl rfl (olloadN X0 hx hby d5_1 rfl (oaloadN X0 hx hby d5_2 rfl rfl (st3 _ (oistore X3 hx hby d5_6 (lc20 a1 q2 (-1)) rfl (oiload X3 hx hby d5_8 rfl k)))))) ?_
  refine own_go (U' := T3.setTop (mkF m 47 (lc20 a1 q2 (-1)) [(.int (-(-1 : Int32)))])) (fun t k => oifY (pc := 10) X3 hx hby d5_10 44 (by decide) (by decide) (oiload X3 hx hby d5_44 rfl (oineg X3 hx hby d5_46 k))) ?_
  rw [show (-(-1 : Int32)) = (1 : Int32) from by decide]
  obtain ⟨T14, X14, e14, st14⟩ := getF X3 hx hZ hown (host := "") (Or.inl (ww hw 32 rfl)) Via.refl e3 F10 (g := (mkF m 52 (lc21 a1 q2 (-1) 0) [(.ref a1)])) rfl rfl (hb hby d5_52)
  obtain ⟨T17, X17, e17, st17⟩ := getF X14 hx hZ hown (host := "") (Or.inl (ww hw 20 rfl)) Via.refl e14 F16 (g := (mkF m 56 (lc21 a1 q2 (-1) 0) [(.ref a1), (.int 0)])) rfl rfl (hb hby d5_56)
  refine own_go (U' := T17.setTop (mkF m 59 (lc21 a1 q2 (-1) 0) [(.ref a15), (.int 0)])) (fun t k => oiconst X3 hx hby d5_47 (oisub X3 hx hby d5_48 (oistore X3 hx hby d5_49 (lc21 a1 q2 (-1) 0) rfl (oaloadN X3 hx hby d5_51 rfl rfl (st14 _ (oaloadN X14 hx hby d5_55 rfl rfl (st17 _ k))))))) ?_
  obtain ⟨cl20, Ar20, q20, S20, N20, H20, G20⟩ := id F19
  refine own_go (fun t k => X17.arraylength hx (by rw [e17]; exact Ar20.1) (State.isArrayOf_alike hZ.alike Ar20.2.1) (g := (mkF m 59 (lc21 a1 q2 (-1) 0) [(.ref a15), (.int 0)])) rfl rfl (hb hby d5_59) _ k) ?_
  rw [len_of S20 N20]
  obtain ⟨T21, X21, e21, st21⟩ := getF X17 hx hZ hown (host := "") (Or.inl (ww hw 20 rfl)) Via.refl e17 F16 (g := (mkF m 101 (lc21 a1 q2 (-1) 0) [(.ref a1)])) rfl rfl (hb hby d5_101)
  obtain ⟨T22, X22, e22, st22⟩ := getF X21 hx hZ hown (host := "") (Or.inl (ww hw 20 rfl)) Via.refl e21 F16 (g := (mkF m 107 (lc21 a1 q2 (-1) 0) [(.ref a1), (.int 0), (.ref a15)])) rfl rfl (hb hby d5_107)
  obtain ⟨T23, X23, e23, st23⟩ := getF X22 hx hZ hown (host := "") (Or.inl (ww hw 32 rfl)) Via.refl e22 F10 (g := (mkF m 115 (lc21 a1 q2 (-1) 0) [(.ref a1), (.int 1), (.ref a15), (.int 0), (.ref a15)])) rfl rfl (hb hby d5_115)
  have f25 : Arv Z h0 a15 kc18 (.object zs1) (16 : Int32) [.null] .null := F19.pad (pad_rep [] .null 1)
  obtain ⟨cl24, Ar24, q24, -⟩ := id f25
  obtain ⟨T24, h24, L24, X24, e24, N24, K24, V24, st24⟩ := cpA X23 hx hZ hown (ww hw 54 rfl) (ww hw 57 rfl) (ww hw 55 rfl) (ww hw 56 rfl) e23 (us := []) f25 f25 (Or.inr ⟨rfl, rfl, trivial⟩) (by decide) (by decide) (by decide) (by decide) (by decide) rfl (Nat.le_of_ble_eq_true rfl) N13 g26 (g := (mkF m 121 (lc21 a1 q2 (-1) 0) [(.int 0), (.int 1), (.ref a15), (.int 0), (.ref a15)])) rfl (by rw [hml]; rfl) rfl (hb hby d5_121) (by decide) (W := 0) (by show 2 * 0 + _ ≤ _; exact Nat.le_of_eq rfl) (by decide)
  have f28 : Arv Z h24 a15 kc18 (.object zs1) (16 : Int32) [.null] .null := V24
  have f32 : Fld Z h24 a1 zs2 "ranks" "[J" (.ref a29) := (F30.keep K24 (ninS ne31 nin0))
  obtain ⟨T33, X33, e33, st33⟩ := getF X24 hx hZ hown (host := "") (Or.inl (ww hw 23 rfl)) Via.refl e24 f32 (g := (mkF m 125 (lc21 a1 q2 (-1) 0) [(.ref a1)])) rfl rfl (hb hby d5_125)
  obtain ⟨T34, X34, e34, st34⟩ := getF X33 hx hZ hown (host := "") (Or.inl (ww hw 23 rfl)) Via.refl e33 f32 (g := (mkF m 131 (lc21 a1 q2 (-1) 0) [(.ref a1), (.int 0), (.ref a29)])) rfl rfl (hb hby d5_131)
  have f35 : Fld Z h24 a1 zs2 "count" "I" (.int 0) := (F10.keep K24 (ninS ne31 nin0))
  obtain ⟨T36, X36, e36, st36⟩ := getF X34 hx hZ hown (host := "") (Or.inl (ww hw 32 rfl)) Via.refl e34 f35 (g := (mkF m 139 (lc21 a1 q2 (-1) 0) [(.ref a1), (.int 1), (.ref a29), (.int 0), (.ref a29)])) rfl rfl (hb hby d5_139)
  have f41 : Arv Z h24 a29 kc38 .long (16 : Int32) [] (.long (0 : Int64)) := (F39.keep K24 (ninS ne40 nin0))
  have f42 : Arv Z h24 a29 kc38 .long (16 : Int32) [(.long 0)] (.long (0 : Int64)) := f41.pad (pad_rep [] (.long (0 : Int64)) 1)
  obtain ⟨T37, h37, L37, X37, e37, N37, K37, V37, st37⟩ := cpA X36 hx hZ hown (ww hw 54 rfl) (ww hw 57 rfl) (ww hw 55 rfl) (ww hw 56 rfl) e36 (us := []) f42 f42 (Or.inl ⟨rfl, rfl⟩) (by decide) (by decide) (by decide) (by decide) (by decide) rfl (Nat.le_of_ble_eq_true rfl) N24 g43 (g := (mkF m 145 (lc21 a1 q2 (-1) 0) [(.int 0), (.int 1), (.ref a29), (.int 0), (.ref a29)])) rfl (by rw [hml]; rfl) rfl (hb hby d5_145) (by decide) (W := 0) (by show 2 * 0 + _ ≤ _; exact Nat.le_of_eq rfl) (by decide)
  have f44 : Arv Z h37 a29 kc38 .long (16 : Int32) [(.long 0)] (.long (0 : Int64)) := V37
  obtain ⟨T45, h45, X45, e45, E45, A45, D45, -, st45⟩ := newO X37 hx hZ hown (ww hw 18 rfl) (ww hw 58 rfl) (ww hw 59 rfl) e37 (g := (mkF m 148 (lc21 a1 q2 (-1) 0) [])) rfl (hb hby d5_148) (by decide) (by decide)
  obtain ⟨b45, g45⟩ : ∃ z, z = h37.size := ⟨_, rfl⟩
  rw [← g45] at A45 D45 st45
  have f46 : Fld Z h45 b45 zs1 "price" zs10 .null := D45 (Or.inr (ww hw 65 rfl)) (ty := (.object zs13)) (by decide)
  have f47 : Fld Z h45 b45 zs1 "priceSteps" "J" (.long 0) := D45 (Or.inr (ww hw 67 rfl)) (ty := .long) (by decide)
  have f48 : Fld Z h45 b45 zs1 "first" zs11 .null := D45 (Or.inl (ww hw 78 rfl)) (ty := (.object zs14)) (by decide)
  have Z_1 : n0 ≤ h24.size := Nat.le_trans Z0 K24.1
  have Z_2 : n0 ≤ h37.size := Nat.le_trans Z_1 K37.1
  have g50 : n0 ≤ b45 := Nat.le_trans Z_2 (Nat.le_of_eq g45.symm)
  have Z_3 : n0 ≤ h45.size := Nat.le_trans Z_2 E45.1
  obtain ⟨_, T49, L49, X49, hQ49, st49⟩ := ocallI X45 hx hZ zm6 rfl hown (ww hw 60 rfl) (ww hw 61 rfl) (by decide) (ww hw 62 rfl) (ww hw 59 rfl) e45 (rm9_10 l Z a0 hw [] b45 q2 h45 n0 Z_3 f46 f47 f48 A45 g50) (st := [(.long q2), .null, (.ref b45), (.ref b45)]) rfl 1 rfl (by decide) (pc := 154) (Ls := (lc21 a1 q2 (-1) 0)) hml rfl (lenOf pd_5 rfl) d5_154 hby
  obtain ⟨rfl, N49q, K49, f51, f52, f53⟩ := hQ49
  have N54 := Fr.app N37 N49q
  have ne56 : a1 ≠ b45 := Nat.ne_of_lt (Nat.lt_of_lt_of_le (Nat.lt_of_lt_of_le (Nat.lt_of_lt_of_le (F5.lt) K24.1) K37.1) (Nat.le_of_eq g45.symm))
  have f57 : Fld Z T49.heap a1 zs2 "levels" zs3 (.ref a15) := ((Fld.ext E45 ((F16.keep K24 (ninS ne31 nin0)).keep K37 (ninS ne55 nin0))).keep K49 (ninS ne56 nin0))
  obtain ⟨T58, X58, e58, st58⟩ := getF X49 hx hZ hown (host := "") (Or.inl (ww hw 20 rfl)) Via.refl rfl f57 (g := (mkF m 160 (lc23 a1 q2 (-1) 0 b45) [(.ref a1)])) rfl rfl (hb hby d5_160)
  have ne59 : a15 ≠ b45 := Nat.ne_of_lt (Nat.lt_of_lt_of_le (Nat.lt_of_lt_of_le (f28.lt) K37.1) (Nat.le_of_eq g45.symm))
  have f60 : Arv Z T49.heap a15 kc18 (.object zs1) (16 : Int32) [.null] .null := (((f28.keep K37 (ninS (Ne.symm ne40) nin0)).ext E45).keep K49 (ninS ne59 nin0))
  have f61 : Exa Z T49.heap b45 zs1 := (A45.keep K49)
  obtain ⟨cl62, Ar62, q62, S62, N62, H62, G62⟩ := id f60
  have hin63 : ¬ ((0 : Int32) < 0 ∨ cl62.slots.size ≤ ((0 : Int32)).toNatClampNeg) := inb_of S62 ⟨by decide, by decide⟩
  obtain ⟨T63, h63, X63, e63, W63, st63⟩ := stR X58 hx hZ e58 Ar62 (j := (0 : Int32)) hin63 rfl (Sto.ofV Ar62 q62 O27 (Ins.self f61)) (g := (mkF m 167 (lc23 a1 q2 (-1) 0 b45) [(.ref b45), (.int 0), (.ref a15)])) rfl rfl (hb hby d5_167)
  have N64 := Fr.snoc X63 N54 g26
  have f65 : Arv Z h63 a15 kc18 (.object zs1) (16 : Int32) [(.ref b45)] .null := Arv.set Ar62 q62 S62 N62 H62 G62 (by rfl) W63 0 rfl (Nat.le_of_ble_eq_true rfl)
  have f66 : Fld Z h63 a1 zs2 "ranks" "[J" (.ref a29) := (Fld.other W63 ((Fld.ext E45 (f32.keep K37 (ninS ne55 nin0))).keep K49 (ninS ne56 nin0)) (Or.inl ne31))
  obtain ⟨T67, X67, e67, st67⟩ := getF X63 hx hZ hown (host := "") (Or.inl (ww hw 23 rfl)) Via.refl e63 f66 (g := (mkF m 169 (lc23 a1 q2 (-1) 0 b45) [(.ref a1)])) rfl rfl (hb hby d5_169)
  have f69 : Fld Z h63 a1 zs2 "side" zs4 (.ref a4) := (Fld.other W63 ((Fld.ext E45 ((F5.keep K24 (ninS ne31 nin0)).keep K37 (ninS ne55 nin0))).keep K49 (ninS ne56 nin0)) (Or.inl ne31))
  have f70 : Sta Z h63 zs6 "BUY" zs4 (.ref a6) := (Sta.wr W63 (own_staK (Sta.ext E45 (own_staK (own_staK F7 K24 (allS (own_nsV f25) all0)) K37 (allS (own_nsV f42) all0))) K49 (allS (own_nsF f46) all0)))
  have Z_4 : n0 ≤ T49.heap.size := Nat.le_trans Z_3 K49.1
  have Z_5 : n0 ≤ h63.size := Nat.le_trans Z_4 (Keep.of_wr W63).1
  have f71 : Exa Z h63 a1 zs2 := (Exa.wr W63 ((Exa.ext E45 ((F9.keep K24).keep K37)).keep K49))
  obtain ⟨_, T68, L68, X68, hQ68, st68⟩ := ocallP X67 hx hZ zm3 hown (ww hw 43 rfl) (ww hw 44 rfl) (own_selP (mvT hZ (ww hw 10 rfl)) (mvP hZ (ww hw 45 rfl)) (mvT hZ (ww hw 44 rfl)) (by decide)) (ww hw 45 rfl) (by decide) (ww hw 46 rfl) (ww hw 11 rfl) e67 f71 (rm7_48 l Z a0 hw [] a1 q2 a4 a6 h63 n0 Z_5 f69 f70 ha8) (st := [(.long q2), (.ref a1), (.int 0), (.ref a29)]) rfl 2 rfl (by decide) (pc := 176) (Ls := (lc23 a1 q2 (-1) 0 b45)) hml rfl (lenOf pd_0 rfl) d5_176 hby
  obtain ⟨rfl, N68q, e68⟩ := hQ68
  have N72 := Fr.app N64 N68q
  have ne73 : a29 ≠ b45 := Nat.ne_of_lt (Nat.lt_of_lt_of_le (f44.lt) (Nat.le_of_eq g45.symm))
  have f74 : Arv Z h63 a29 kc38 .long (16 : Int32) [(.long 0)] (.long (0 : Int64)) := (((f44.ext E45).keep K49 (ninS ne73 nin0)).other W63 ne40)
  obtain ⟨cl75, Ar75, q75, S75, N75, H75, G75⟩ := id f74
  have hin76 : ¬ ((0 : Int32) < 0 ∨ cl75.slots.size ≤ ((0 : Int32)).toNatClampNeg) := inb_of S75 ⟨by decide, by decide⟩
  obtain ⟨T76, h76, X76, e76, W76, st76⟩ := stJ X68 hx hZ e68 Ar75 (j := (0 : Int32)) hin76 (g := (mkF m 179 (lc23 a1 q2 (-1) 0 b45) [(.long (q2 ^^^ (-1 : Int64))), (.int 0), (.ref a29)])) rfl rfl (hb hby d5_179)
  have N77 := Fr.snoc X76 N72 g43
  have f78 : Arv Z h76 a29 kc38 .long (16 : Int32) [(.long (q2 ^^^ (-1 : Int64)))] (.long (0 : Int64)) := Arv.set Ar75 q75 S75 N75 H75 G75 (by rfl) W76 0 rfl (Nat.le_of_ble_eq_true rfl)
  have f79 : Fld Z h76 a1 zs2 "count" "I" (.int 0) := (Fld.other W76 (Fld.other W63 ((Fld.ext E45 (f35.keep K37 (ninS ne55 nin0))).keep K49 (ninS ne56 nin0)) (Or.inl ne31)) (Or.inl ne55))
  obtain ⟨T80, X80, e80, st80⟩ := getF X76 hx hZ hown (host := "") (Or.inl (ww hw 32 rfl)) Via.refl e76 f79 (g := (mkF m 182 (lc23 a1 q2 (-1) 0 b45) [(.ref a1), (.ref a1)])) rfl rfl (hb hby d5_182)
  have f82 : Exa Z h76 a1 zs2 := (Exa.wr W76 f71)
  obtain ⟨T83, h83, X83, e83, W83, st83⟩ := putF X80 hx hZ hown (host := "") (Or.inl (ww hw 32 rfl)) Via.refl e80 f79 f82 (Or.inl (ww hw 33 rfl)) (ww hw 10 rfl) (ty := .int) (by decide) rfl rfl (g := (mkF m 187 (lc23 a1 q2 (-1) 0 b45) [(.int 1), (.ref a1)])) rfl rfl (hb hby d5_187)
  have N85 := Fr.snoc X83 N77 g84
  have f86 : Fld Z h83 a1 zs2 "count" "I" (.int 1) := Fld.same W83 f79
  refine own_go (U' := T83.setTop (mkF m 192 (lc23 a1 q2 (-1) 0 b45) [(.ref b45)])) (fun t k => oicY (pc := 60) X17 hx hby d5_60 100 (by decide) (by decide) (oaloadN X17 hx hby d5_100 rfl rfl (st21 _ (oiload X21 hx hby d5_104 rfl (oaloadN X21 hx hby d5_106 rfl rfl (st22 _ (oiload X22 hx hby d5_110 rfl (oiconst X22 hx hby d5_112 (oiadd X22 hx hby d5_113 (oaloadN X22 hx hby d5_114 rfl rfl (st23 _ (oiload X23 hx hby d5_118 rfl (oisub X23 hx hby d5_120 (st24 _ (oaloadN X24 hx hby d5_124 rfl rfl (st33 _ (oiload X33 hx hby d5_128 rfl (oaloadN X33 hx hby d5_130 rfl rfl (st34 _ (oiload X34 hx hby d5_134 rfl (oiconst X34 hx hby d5_136 (oiadd X34 hx hby d5_137 (oaloadN X34 hx hby d5_138 rfl rfl (st36 _ (oiload X36 hx hby d5_142 rfl (oisub X36 hx hby d5_144 (st37 _ (st45 _ (odup X45 hx hby d5_151 rfl (oaloadN X45 hx hby d5_152 rfl rfl (olloadN X45 hx hby d5_153 rfl (st49 _ (oastore X49 hx hby d5_157 (lc23 a1 q2 (-1) 0 b45) rfl rfl (oaloadN X49 hx hby d5_159 rfl rfl (st58 _ (oiload X58 hx hby d5_163 rfl (oaload X58 hx hby d5_165 rfl rfl (st63 _ (oaloadN X63 hx hby d5_168 rfl rfl (st67 _ (oiload X67 hx hby d5_172 rfl (oaloadN X67 hx hby d5_174 rfl rfl (olloadN X67 hx hby d5_175 rfl (st68 _ (st76 _ (oaloadN X76 hx hby d5_180 rfl rfl (odup X76 hx hby d5_181 rfl (st80 _ (oiconst X80 hx hby d5_185 (oiadd X80 hx hby d5_186 (st83 _ (oaload X83 hx hby d5_190 rfl rfl k)))))))))))))))))))))))))))))))))))))))))))))))))))) ?_
  have f87 : Arv Z h83 a15 kc18 (.object zs1) (16 : Int32) [(.ref b45)] .null := ((f65.other W76 (Ne.symm ne40)).other W83 (Ne.symm ne31))
  have f88 : Arv Z h83 a29 kc38 .long (16 : Int32) [(.long (q2 ^^^ (-1 : Int64)))] (.long (0 : Int64)) := (f78.other W83 (Ne.symm ne55))
  have f89 : Fld Z h83 a1 zs2 "side" zs4 (.ref a4) := (Fld.other W83 (Fld.other W76 f69 (Or.inl ne55)) (Or.inr (slot_ne (Or.inr (ww hw 26 rfl)) (Or.inl (ww hw 33 rfl)) (by decide) (t := (.object zs6)) (t' := .int) (by decide) (by decide))))
  have f90 : Fld Z h83 a1 zs2 "levels" zs3 (.ref a15) := (Fld.other W83 (Fld.other W76 (Fld.other W63 f57 (Or.inl ne31)) (Or.inl ne55)) (Or.inr (slot_ne (Or.inl (ww hw 21 rfl)) (Or.inl (ww hw 33 rfl)) (by decide) (t := (.array (.object zs1))) (t' := .int) (by decide) (by decide))))
  have f91 : Fld Z h83 a1 zs2 "ranks" "[J" (.ref a29) := (Fld.other W83 (Fld.other W76 f66 (Or.inl ne55)) (Or.inr (slot_ne (Or.inl (ww hw 24 rfl)) (Or.inl (ww hw 33 rfl)) (by decide) (t := (.array .long)) (t' := .int) (by decide) (by decide))))
  have f92 : Fld Z h83 a1 zs2 "emptyLevels" "I" (.int 0) := (Fld.other W83 (Fld.other W76 (Fld.other W63 ((Fld.ext E45 ((F81.keep K24 (ninS ne31 nin0)).keep K37 (ninS ne55 nin0))).keep K49 (ninS ne56 nin0)) (Or.inl ne31)) (Or.inl ne55)) (Or.inr (slot_ne (Or.inl (ww hw 80 rfl)) (Or.inl (ww hw 33 rfl)) (by decide) (t := .int) (t' := .int) (by decide) (by decide))))
  have f93 : Exa Z h83 b45 zs1 := (Exa.wr W83 (Exa.wr W76 (Exa.wr W63 f61)))
  have f94 : Fld Z h83 b45 zs1 "price" zs10 .null := (Fld.other W83 (Fld.other W76 (Fld.other W63 f51 (Or.inl (Ne.symm ne59))) (Or.inl (Ne.symm ne73))) (Or.inl (Ne.symm ne56)))
  have f95 : Fld Z h83 b45 zs1 "priceSteps" "J" (.long q2) := (Fld.other W83 (Fld.other W76 (Fld.other W63 f52 (Or.inl (Ne.symm ne59))) (Or.inl (Ne.symm ne73))) (Or.inl (Ne.symm ne56)))
  have f96 : Fld Z h83 b45 zs1 "first" zs11 .null := (Fld.other W83 (Fld.other W76 (Fld.other W63 f53 (Or.inl (Ne.symm ne59))) (Or.inl (Ne.symm ne73))) (Or.inl (Ne.symm ne56)))
  obtain ⟨fs, hr, hrun, hended, hW, hsame⟩ := X83.leave (v := some (.ref b45)) (fun h => by rw [Bd.returns] at h; cases h)
  refine own_out ⟨_, _, ?_, hrun, hended, _, _, rfl, ?_, ⟨_, rfl⟩, hW, hsame.mono (by decide) (by decide)⟩
  · exact retOut X83 hx Bd.returns rfl (Or.inr (Or.inr (Or.inr (Or.inr ⟨rfl, rfl, rfl⟩)))) (hb hby d5_192) hr
  · show Q5_51 Z a1 q2 a4 a6 a15 kc18 a29 kc38 h0 n0 _ T83.heap _
    rw [e83]
    exact ⟨b45, rfl, N85, ((((Keep.trans ((Keep.trans (Keep.trans (Keep.refl h0 [a15, a29, a1]) K24 (allS (Or.inl (List.mem_of_getElem? (i := 0) rfl)) all0)) K37 (allS (Or.inl (List.mem_of_getElem? (i := 1) rfl)) all0)).ext E45) K49 (allS (Or.inr (Nat.le_trans K24.1 (Nat.le_trans K37.1 (Nat.le_of_eq g45.symm)))) all0)).wr W63 (Or.inl (List.mem_of_getElem? (i := 0) rfl))).wr W76 (Or.inl (List.mem_of_getElem? (i := 1) rfl))).wr W83 (Or.inl (List.mem_of_getElem? (i := 2) rfl))), (Nat.le_trans K24.1 (Nat.le_trans K37.1 (Nat.le_of_eq g45.symm))), f87, f88, f89, f86, f90, f91, f92, f93, f94, f95, f96⟩
def Q6_52 (Z : State) (a1 : Addr) (q2 : Int64) (a4 : Addr) (a6 : Addr) (a14 : Addr) (q17 : Int64) (kc18 : ClassId) (h0 : Heap) (n0 : Nat) (v : Option Value) (h : Heap) (L : List Loc) : Prop := v = some (.int (-2)) ∧ Fr n0 L ∧ h = h0
set_option maxRecDepth 65536 in
set_option maxHeartbeats 40000000 in
theorem rm6_52 (l : Launch) (Z : State) (a0 : Array Value) (hw : ∀ d ∈ tables_1, d.before a0 Z = true) (ws : List Jvm.Cond) (a1 : Addr) (q2 : Int64) (a4 : Addr) (a6 : Addr) (a14 : Addr) (q17 : Int64) (kc18 : ClassId) (h0 : Heap) (n0 : Nat) (Z0 : n0 ≤ h0.size) (F5 : Fld Z h0 a1 zs2 "side" zs4 (.ref a4)) (F7 : Sta Z h0 zs6 "BUY" zs4 (.ref a6)) (ha8 : a4 ≠ a6) (F9 : Exa Z h0 a1 zs2) (F12 : Fld Z h0 a1 zs2 "count" "I" (.int 1)) (F15 : Fld Z h0 a1 zs2 "ranks" "[J" (.ref a14)) (F19 : Arv Z h0 a14 kc18 .long (16 : Int32) [(.long q17)] (.long (0 : Int64))) (hc22 : q17 < (q2 ^^^ (-1 : Int64))) (hc26 : ¬ ((q2 ^^^ (-1 : Int64)) = (-9223372036854775808 : Int64))) (hc28 : ¬ ((q2 ^^^ (-1 : Int64)) = (9223372036854775807 : Int64))) :
    MetFree l zm5 (head1 (Jvm.Cond.code zm5 prog_2_method_8_code 11 (some .int) :: ws) ({ frames := 1, cells := 0, slots := 0, locals := 14 } : Room)) (fun a U => a = #[(.ref a1), (.long q2), .null] ∧ Z.Warmed39 U.vm ∧ U.heap = h0) (fun _ _ _ _ _ => True) (fun _ U o U' => ∃ v L, o = .returned v ∧ Q6_52 Z a1 q2 a4 a6 a14 q17 kc18 h0 n0 v U'.heap L ∧ FrameEnd U o U' L ({ frames := 1, cells := 0, slots := 0, locals := 14 } : Room).cells ({ frames := 1, cells := 0, slots := 0, locals := 14 } : Room).slots) := by
  refine MetFree.of_bodySF (plainFor_of_name pn_com_example_srok_srok_engine_BookSide) hisR ?_
  intro p e s m args below meth c s₁ Bd hml0 hP hK
  obtain ⟨rfl, hZ, hh⟩ := hP
  have hx := Bd.exec
  have hby := Bd.bytes
  have hml : c.maxLocals = 11 := hml0
  have hown : s.vm.findClass zs2 = some m.cls := findClass_of_methodNamed Bd.named
  have hnm := (name_of_methodNamed Bd.named Bd.method).1
  have X0 : Stand p l e ({ frames := 1, cells := 0, slots := 0, locals := 14 } : Room) s m #[(.ref a1), (.long q2), .null] below meth c s₁ [] 0 0 := Stand.of_body Bd
  have e0 : s₁.heap = h0 := by rw [← hh, Bd.state]; rfl
  have N0 := Fr.nil n0
  refine own_pre (g' := mkF m 0 (lc11 a1 q2) []) (ef_5 m a1 q2) ?_
  obtain ⟨_, T3, L3, X3, hQ3, st3⟩ := ocallP X0 hx hZ zm3 hown (ww hw 43 rfl) (ww hw 44 rfl) (own_selP (mvT hZ (ww hw 10 rfl)) (mvP hZ (ww hw 45 rfl)) (mvT hZ (ww hw 44 rfl)) (by decide)) (ww hw 45 rfl) (by decide) (ww hw 46 rfl) (ww hw 11 rfl) e0 F9 (rm7_48 l Z a0 hw [] a1 q2 a4 a6 h0 n0 Z0 F5 F7 ha8) (st := [(.long q2), (.ref a1)]) rfl 0 rfl (by decide) (pc := 2) (Ls := (lc11 a1 q2)) hml rfl (lenOf pd_0 rfl) d6_2 hby
  obtain ⟨rfl, N3q, e3⟩ := hQ3
  have N10 := Fr.app N0 N3q
  refine own_go (U' := T3.setTop (mkF m 7 (lc13 a1 q2 (q2 ^^^ (-1 : Int64))) [])) (fun t k => oaloadN X0 hx hby d6_0 rfl rfl (olloadN X0 hx hby d6_1 rfl (st3 _ (olstore X3 hx hby d6_5 (lc13 a1 q2 (q2 ^^^ (-1 : Int64))) rfl k)))) ?_
  obtain ⟨z11, hz11⟩ : ∃ z, z = (q2 ^^^ (-1 : Int64)) := ⟨_, rfl⟩
  rw [← hz11]
  obtain ⟨T13, X13, e13, st13⟩ := getF X3 hx hZ hown (host := "") (Or.inl (ww hw 32 rfl)) Via.refl e3 F12 (g := (mkF m 8 (lc13 a1 q2 z11) [(.ref a1)])) rfl rfl (hb hby d6_8)
  refine own_go (U' := T13.setTop (mkF m 21 (lc15 a1 q2 z11 1 1) [(.int 0)])) (fun t k => oaloadN X3 hx hby d6_7 rfl rfl (st13 _ (oistore X13 hx hby d6_11 (lc14 a1 q2 z11 1) rfl (oiconst X13 hx hby d6_13 (oistore X13 hx hby d6_14 (lc15 a1 q2 z11 1 1) rfl (oiload X13 hx hby d6_16 rfl (oiload X13 hx hby d6_18 rfl (oisub X13 hx hby d6_20 k)))))))) ?_
  obtain ⟨T16, X16, e16, st16⟩ := getF X13 hx hZ hown (host := "") (Or.inl (ww hw 23 rfl)) Via.refl e13 F15 (g := (mkF m 25 (lc15 a1 q2 z11 1 1) [(.ref a1)])) rfl rfl (hb hby d6_25)
  obtain ⟨cl20, Ar20, q20, S20, N20, H20, G20⟩ := id F19
  have hin21 : ¬ ((0 : Int32) < 0 ∨ cl20.slots.size ≤ ((0 : Int32)).toNatClampNeg) := inb_of S20 ⟨by decide, by decide⟩
  have hat21 : cl20.slots[((0 : Int32)).toNatClampNeg]? = some (.long q17) := Has.at H20 hin21 rfl
  refine own_go (U' := T16.setTop (mkF m 37 (lc15 a1 q2 z11 1 1) [(.int (lcmpW q17 z11))])) (fun t k => oifN X13 hx hby d6_21 (by decide) (oaloadN X13 hx hby d6_24 rfl rfl (st16 _ (oiload X16 hx hby d6_28 rfl (oiload X16 hx hby d6_30 rfl (oisub X16 hx hby d6_32 (X16.laload hx (j := (0 : Int32)) (v := (.long q17)) (by rw [e16]; exact Ar20.1) (State.isArrayOf_alike hZ.alike Ar20.2.1) Ar20.2.2 hin21 hat21 (g := (mkF m 33 (lc15 a1 q2 z11 1 1) [(.int 0), (.ref a14)])) rfl rfl (hb hby d6_33) _ (olload X16 hx hby d6_34 rfl (olcmp X16 hx hby d6_36 k))))))))) ?_
  have hs23 : q17 < z11 := by rw [hz11]; exact hc22
  obtain ⟨_, T24, L24, X24, hQ24, st24⟩ := ocallS X16 hx hZ zm4 hown (ww hw 48 rfl) (ww hw 49 rfl) (by decide) (ww hw 51 rfl) (ww hw 50 rfl) e16 (rm8_13 l Z a0 hw []  h0 n0 Z0 ) (st := [(.int 1), (.int 0)]) rfl 0 rfl (by decide) (pc := 64) (Ls := (lc15 a1 q2 z11 1 1)) hml rfl (lenOf pd_3 rfl) d6_64 hby
  obtain ⟨rfl, N24q, e24⟩ := hQ24
  have N25 := Fr.app N10 N24q
  refine own_go (U' := T24.setTop (mkF m 79 (lc18 a1 q2 z11 1 1 1 0) [(.int 1), (.int 0)])) (fun t k => oifY (pc := 37) X16 hx hby d6_37 56 (own_ll_lt_t hs23) (by decide) (oiconst X16 hx hby d6_56 (oiload X16 hx hby d6_57 rfl (oiload X16 hx hby d6_59 rfl (oisub X16 hx hby d6_61 (oiconst X16 hx hby d6_62 (oiadd X16 hx hby d6_63 (st24 _ (oistore X24 hx hby d6_67 (lc17 a1 q2 z11 1 1 1) rfl (oiload X24 hx hby d6_69 rfl (oiload X24 hx hby d6_71 rfl (oisub X24 hx hby d6_73 (oistore X24 hx hby d6_74 (lc18 a1 q2 z11 1 1 1 0) rfl (oiload X24 hx hby d6_76 rfl (oiconst X24 hx hby d6_78 k))))))))))))))) ?_
  refine own_go (U' := T24.setTop (mkF m 132 (lc18 a1 q2 z11 1 1 1 0) [(.int 1), (.int 1)])) (fun t k => oicY (pc := 79) X24 hx hby d6_79 128 (by decide) (by decide) (oiload X24 hx hby d6_128 rfl (oiload X24 hx hby d6_130 rfl k))) ?_
  refine own_go (U' := T24.setTop (mkF m 157 (lc18 a1 q2 z11 1 1 1 0) [(.int (lcmpW z11 (-9223372036854775808 : Int64)))])) (fun t k => oicY (pc := 132) X24 hx hby d6_132 151 (by decide) (by decide) (olload X24 hx hby d6_151 rfl (X24.ldc2Long hx hown (mvT hZ (ww hw 52 rfl)) (g := (mkF m 153 (lc18 a1 q2 z11 1 1 1 0) [(.long z11)])) rfl (hb hby d6_153) _ (olcmp X24 hx hby d6_156 k)))) ?_
  have hs27 : ¬ (z11 = (-9223372036854775808 : Int64)) := by rw [hz11]; exact hc26
  refine own_go (U' := T24.setTop (mkF m 166 (lc18 a1 q2 z11 1 1 1 0) [(.int (lcmpW z11 (9223372036854775807 : Int64)))])) (fun t k => oifN X24 hx hby d6_157 (own_ll_eq_f hs27) (olload X24 hx hby d6_160 rfl (X24.ldc2Long hx hown (mvT hZ (ww hw 53 rfl)) (g := (mkF m 162 (lc18 a1 q2 z11 1 1 1 0) [(.long z11)])) rfl (hb hby d6_162) _ (olcmp X24 hx hby d6_165 k)))) ?_
  have hs29 : ¬ (z11 = (9223372036854775807 : Int64)) := by rw [hz11]; exact hc28
  refine own_go (U' := T24.setTop (mkF m 178 (lc18 a1 q2 z11 1 1 1 1) [(.int 1)])) (fun t k => oifN X24 hx hby d6_166 (own_ll_eq_f hs29) (oiconst X24 hx hby d6_169 (ogoto (pc := 170) X24 hx hby d6_170 174 (by decide) (oistore X24 hx hby d6_174 (lc18 a1 q2 z11 1 1 1 1) rfl (oiload X24 hx hby d6_176 rfl k))))) ?_
  obtain ⟨T30, X30, e30, st30⟩ := getF X24 hx hZ hown (host := "") (Or.inl (ww hw 32 rfl)) Via.refl e24 F12 (g := (mkF m 230 (lc18 a1 q2 z11 1 1 1 1) [(.ref a1), (.int 1)])) rfl rfl (hb hby d6_230)
  refine own_go (U' := T30.setTop (mkF m 233 (lc18 a1 q2 z11 1 1 1 1) [(.int 1), (.int 1)])) (fun t k => oifY (pc := 178) X24 hx hby d6_178 227 (by decide) (by decide) (oiload X24 hx hby d6_227 rfl (oaloadN X24 hx hby d6_229 rfl rfl (st30 _ k)))) ?_
  refine own_go (U' := T30.setTop (mkF m 280 (lc19 a1 q2 z11 1 1 1 1 0) [(.int 0)])) (fun t k => oicY (pc := 233) X30 hx hby d6_233 275 (by decide) (by decide) (oiconst X30 hx hby d6_275 (oistore X30 hx hby d6_276 (lc19 a1 q2 z11 1 1 1 1 0) rfl (oiload X30 hx hby d6_278 rfl k)))) ?_
  refine own_go (U' := T30.setTop (mkF m 292 (lc19 a1 q2 z11 1 1 1 1 0) [(.int ((-1 : Int32) - (1 : Int32)))])) (fun t k => oifY (pc := 280) X30 hx hby d6_280 288 (by decide) (by decide) (oiconst X30 hx hby d6_288 (oiload X30 hx hby d6_289 rfl (oisub X30 hx hby d6_291 k)))) ?_
  rw [show ((-1 : Int32) - (1 : Int32)) = (-2 : Int32) from by decide]
  obtain ⟨fs, hr, hrun, hended, hW, hsame⟩ := X30.leave (v := some (.int (-2))) (fun h => by rw [Bd.returns] at h; cases h)
  refine own_out ⟨_, _, ?_, hrun, hended, _, _, rfl, ?_, ⟨_, rfl⟩, hW, hsame.mono (by decide) (by decide)⟩
  · exact retI X30 hx Bd.returns (hb hby d6_292) hr
  · show Q6_52 Z a1 q2 a4 a6 a14 q17 kc18 h0 n0 _ T30.heap _
    rw [e30]
    exact ⟨rfl, N25, rfl⟩
def Qmg6_53 (Z : State) (a1 : Addr) (q2 : Int64) (a3 : Addr) (a5 : Addr) (a10 : Addr) (q12 : Int64) (kc13 : ClassId) (h0 : Heap) (n0 : Nat) (v : Option Value) (h : Heap) (L : List Loc) : Prop := v = some (.int (-2)) ∧ Fr n0 L ∧ h = h0
theorem mg6_53 (l : Launch) (Z : State) (a0 : Array Value) (hw : ∀ d ∈ tables_1, d.before a0 Z = true) (ws : List Jvm.Cond) (a1 : Addr) (q2 : Int64) (a3 : Addr) (a5 : Addr) (a10 : Addr) (q12 : Int64) (kc13 : ClassId) (h0 : Heap) (n0 : Nat) (Z0 : n0 ≤ h0.size) (F4 : Fld Z h0 a1 zs2 "side" zs4 (.ref a3)) (F6 : Sta Z h0 zs6 "BUY" zs4 (.ref a5)) (ha7 : a3 ≠ a5) (F8 : Exa Z h0 a1 zs2) (F9 : Fld Z h0 a1 zs2 "count" "I" (.int 1)) (F11 : Fld Z h0 a1 zs2 "ranks" "[J" (.ref a10)) (F14 : Arv Z h0 a10 kc13 .long (16 : Int32) [(.long q12)] (.long (0 : Int64))) (hc15 : q12 < (q2 ^^^ (-1 : Int64))) (hc16 : ¬ ((q2 ^^^ (-1 : Int64)) = (-9223372036854775808 : Int64))) (hc17 : ¬ ((q2 ^^^ (-1 : Int64)) = (9223372036854775807 : Int64))) :
    MetFree l zm5 (head1 (Jvm.Cond.code zm5 prog_2_method_8_code 11 (some .int) :: ws) ({ frames := 1, cells := 0, slots := 0, locals := 14 } : Room)) (fun a U => a = #[(.ref a1), (.long q2), .null] ∧ Z.Warmed39 U.vm ∧ U.heap = h0) (fun _ _ _ _ _ => True) (fun _ U o U' => ∃ v L, o = .returned v ∧ Qmg6_53 Z a1 q2 a3 a5 a10 q12 kc13 h0 n0 v U'.heap L ∧ FrameEnd U o U' L ({ frames := 1, cells := 0, slots := 0, locals := 14 } : Room).cells ({ frames := 1, cells := 0, slots := 0, locals := 14 } : Room).slots) := by
  exact rm6_52 l Z a0 hw ws a1 q2 a3 a5 a10 q12 kc13 h0 n0 Z0 F4 F6 ha7 F8 F9 F11 F14 hc15 hc16 hc17
def Q5_54 (Z : State) (a1 : Addr) (q2 : Int64) (a4 : Addr) (a6 : Addr) (a11 : Addr) (q13 : Int64) (kc14 : ClassId) (a21 : Addr) (a24 : Addr) (kc25 : ClassId) (h0 : Heap) (n0 : Nat) (v : Option Value) (h : Heap) (L : List Loc) : Prop := ∃ b48 : Addr, v = some (.ref b48) ∧ Fr n0 L ∧ Keep h0 h [a21, a11, a1] ∧ h0.size ≤ b48 ∧ Arv Z h a21 kc25 (.object zs1) (16 : Int32) [(.ref a24), (.ref b48)] .null ∧ Arv Z h a11 kc14 .long (16 : Int32) [(.long q13), (.long (q2 ^^^ (-1 : Int64)))] (.long (0 : Int64)) ∧ Fld Z h a1 zs2 "side" zs4 (.ref a4) ∧ Fld Z h a1 zs2 "count" "I" (.int 2) ∧ Fld Z h a1 zs2 "ranks" "[J" (.ref a11) ∧ Fld Z h a1 zs2 "levels" zs3 (.ref a21) ∧ Fld Z h a1 zs2 "emptyLevels" "I" (.int 0) ∧ Exa Z h b48 zs1 ∧ Fld Z h b48 zs1 "price" zs10 .null ∧ Fld Z h b48 zs1 "priceSteps" "J" (.long q2) ∧ Fld Z h b48 zs1 "first" zs11 .null
set_option maxRecDepth 65536 in
set_option maxHeartbeats 40000000 in
theorem rm5_54 (l : Launch) (Z : State) (a0 : Array Value) (hw : ∀ d ∈ tables_1, d.before a0 Z = true) (ws : List Jvm.Cond) (a1 : Addr) (q2 : Int64) (a4 : Addr) (a6 : Addr) (a11 : Addr) (q13 : Int64) (kc14 : ClassId) (a21 : Addr) (a24 : Addr) (kc25 : ClassId) (h0 : Heap) (n0 : Nat) (Z0 : n0 ≤ h0.size) (F5 : Fld Z h0 a1 zs2 "side" zs4 (.ref a4)) (F7 : Sta Z h0 zs6 "BUY" zs4 (.ref a6)) (ha8 : a4 ≠ a6) (F9 : Exa Z h0 a1 zs2) (F10 : Fld Z h0 a1 zs2 "count" "I" (.int 1)) (F12 : Fld Z h0 a1 zs2 "ranks" "[J" (.ref a11)) (F15 : Arv Z h0 a11 kc14 .long (16 : Int32) [(.long q13)] (.long (0 : Int64))) (hc16 : q13 < (q2 ^^^ (-1 : Int64))) (hc17 : ¬ ((q2 ^^^ (-1 : Int64)) = (-9223372036854775808 : Int64))) (hc18 : ¬ ((q2 ^^^ (-1 : Int64)) = (9223372036854775807 : Int64))) (F22 : Fld Z h0 a1 zs2 "levels" zs3 (.ref a21)) (F26 : Arv Z h0 a21 kc25 (.object zs1) (16 : Int32) [(.ref a24)] .null) (g33 : n0 ≤ a21) (O34 : Ovr Z kc25 zs1) (ne36 : a1 ≠ a21) (ne43 : a11 ≠ a21) (g46 : n0 ≤ a11) (ne58 : a1 ≠ a11) (F84 : Fld Z h0 a1 zs2 "emptyLevels" "I" (.int 0)) (g87 : n0 ≤ a1) :
    MetFree l zm7 (head1 (Jvm.Cond.code zm7 prog_2_method_5_code 7 (some (.object zs1)) :: ws) ({ frames := 2, cells := 1, slots := 4, locals := 36 } : Room)) (fun a U => a = #[(.ref a1), (.long q2), .null] ∧ Z.Warmed39 U.vm ∧ U.heap = h0) (fun _ _ _ _ _ => True) (fun _ U o U' => ∃ v L, o = .returned v ∧ Q5_54 Z a1 q2 a4 a6 a11 q13 kc14 a21 a24 kc25 h0 n0 v U'.heap L ∧ FrameEnd U o U' L ({ frames := 2, cells := 1, slots := 4, locals := 36 } : Room).cells ({ frames := 2, cells := 1, slots := 4, locals := 36 } : Room).slots) := by
  refine MetFree.of_bodySF (plainFor_of_name pn_com_example_srok_srok_engine_BookSide) hisR ?_
  intro p e s m args below meth c s₁ Bd hml0 hP hK
  obtain ⟨rfl, hZ, hh⟩ := hP
  have hx := Bd.exec
  have hby := Bd.bytes
  have hml : c.maxLocals = 7 := hml0
  have hown : s.vm.findClass zs2 = some m.cls := findClass_of_methodNamed Bd.named
  have hnm := (name_of_methodNamed Bd.named Bd.method).1
  have X0 : Stand p l e ({ frames := 2, cells := 1, slots := 4, locals := 36 } : Room) s m #[(.ref a1), (.long q2), .null] below meth c s₁ [] 0 0 := Stand.of_body Bd
  have e0 : s₁.heap = h0 := by rw [← hh, Bd.state]; rfl
  have N0 := Fr.nil n0
  refine own_pre (g' := mkF m 0 (lc10 a1 q2) []) (ef_7 m a1 q2) ?_
  obtain ⟨_, T3, L3, X3, hQ3, st3⟩ := ocallP X0 hx hZ zm5 hown (ww hw 39 rfl) (ww hw 40 rfl) (own_selP (mvT hZ (ww hw 10 rfl)) (mvP hZ (ww hw 41 rfl)) (mvT hZ (ww hw 40 rfl)) (by decide)) (ww hw 41 rfl) (by decide) (ww hw 42 rfl) (ww hw 11 rfl) e0 F9 (mg6_53 l Z a0 hw [] a1 q2 a4 a6 a11 q13 kc14 h0 n0 Z0 F5 F7 ha8 F9 F10 F12 F15 hc16 hc17 hc18) (st := [.null, (.long q2), (.ref a1)]) rfl 0 rfl (by decide) (pc := 3) (Ls := (lc10 a1 q2)) hml rfl (lenOf pd_4 rfl) d5_3 hby
  obtain ⟨rfl, N3q, e3⟩ := hQ3
  have N19 := Fr.app N0 N3q
  refine own_go (U' := T3.setTop (mkF m 10 (lc20 a1 q2 (-2)) [(.int (-2))])) (fun t k => oaloadN X0 hx hby d5_0 rfl rfl (olloadN X0 hx hby d5_1 rfl (oaloadN X0 hx hby d5_2 rfl rfl (st3 _ (oistore X3 hx hby d5_6 (lc20 a1 q2 (-2)) rfl (oiload X3 hx hby d5_8 rfl k)))))) ?_
  refine own_go (U' := T3.setTop (mkF m 47 (lc20 a1 q2 (-2)) [(.int (-(-2 : Int32)))])) (fun t k => oifY (pc := 10) X3 hx hby d5_10 44 (by decide) (by decide) (oiload X3 hx hby d5_44 rfl (oineg X3 hx hby d5_46 k))) ?_
  rw [show (-(-2 : Int32)) = (2 : Int32) from by decide]
  obtain ⟨T20, X20, e20, st20⟩ := getF X3 hx hZ hown (host := "") (Or.inl (ww hw 32 rfl)) Via.refl e3 F10 (g := (mkF m 52 (lc21 a1 q2 (-2) 1) [(.ref a1)])) rfl rfl (hb hby d5_52)
  obtain ⟨T23, X23, e23, st23⟩ := getF X20 hx hZ hown (host := "") (Or.inl (ww hw 20 rfl)) Via.refl e20 F22 (g := (mkF m 56 (lc21 a1 q2 (-2) 1) [(.ref a1), (.int 1)])) rfl rfl (hb hby d5_56)
  refine own_go (U' := T23.setTop (mkF m 59 (lc21 a1 q2 (-2) 1) [(.ref a21), (.int 1)])) (fun t k => oiconst X3 hx hby d5_47 (oisub X3 hx hby d5_48 (oistore X3 hx hby d5_49 (lc21 a1 q2 (-2) 1) rfl (oaloadN X3 hx hby d5_51 rfl rfl (st20 _ (oaloadN X20 hx hby d5_55 rfl rfl (st23 _ k))))))) ?_
  obtain ⟨cl27, Ar27, q27, S27, N27, H27, G27⟩ := id F26
  refine own_go (fun t k => X23.arraylength hx (by rw [e23]; exact Ar27.1) (State.isArrayOf_alike hZ.alike Ar27.2.1) (g := (mkF m 59 (lc21 a1 q2 (-2) 1) [(.ref a21), (.int 1)])) rfl rfl (hb hby d5_59) _ k) ?_
  rw [len_of S27 N27]
  obtain ⟨T28, X28, e28, st28⟩ := getF X23 hx hZ hown (host := "") (Or.inl (ww hw 20 rfl)) Via.refl e23 F22 (g := (mkF m 101 (lc21 a1 q2 (-2) 1) [(.ref a1)])) rfl rfl (hb hby d5_101)
  obtain ⟨T29, X29, e29, st29⟩ := getF X28 hx hZ hown (host := "") (Or.inl (ww hw 20 rfl)) Via.refl e28 F22 (g := (mkF m 107 (lc21 a1 q2 (-2) 1) [(.ref a1), (.int 1), (.ref a21)])) rfl rfl (hb hby d5_107)
  obtain ⟨T30, X30, e30, st30⟩ := getF X29 hx hZ hown (host := "") (Or.inl (ww hw 32 rfl)) Via.refl e29 F10 (g := (mkF m 115 (lc21 a1 q2 (-2) 1) [(.ref a1), (.int 2), (.ref a21), (.int 1), (.ref a21)])) rfl rfl (hb hby d5_115)
  have f32 : Arv Z h0 a21 kc25 (.object zs1) (16 : Int32) [(.ref a24), .null] .null := F26.pad (pad_rep [(.ref a24)] .null 1)
  obtain ⟨cl31, Ar31, q31, -⟩ := id f32
  obtain ⟨T31, h31, L31, X31, e31, N31, K31, V31, st31⟩ := cpA X30 hx hZ hown (ww hw 54 rfl) (ww hw 57 rfl) (ww hw 55 rfl) (ww hw 56 rfl) e30 (us := []) f32 f32 (Or.inr ⟨rfl, rfl, trivial⟩) (by decide) (by decide) (by decide) (by decide) (by decide) rfl (Nat.le_of_ble_eq_true rfl) N19 g33 (g := (mkF m 121 (lc21 a1 q2 (-2) 1) [(.int 0), (.int 2), (.ref a21), (.int 1), (.ref a21)])) rfl (by rw [hml]; rfl) rfl (hb hby d5_121) (by decide) (W := 0) (by show 2 * 0 + _ ≤ _; exact Nat.le_of_eq rfl) (by decide)
  have f35 : Arv Z h31 a21 kc25 (.object zs1) (16 : Int32) [(.ref a24), .null] .null := V31
  have f37 : Fld Z h31 a1 zs2 "ranks" "[J" (.ref a11) := (F12.keep K31 (ninS ne36 nin0))
  obtain ⟨T38, X38, e38, st38⟩ := getF X31 hx hZ hown (host := "") (Or.inl (ww hw 23 rfl)) Via.refl e31 f37 (g := (mkF m 125 (lc21 a1 q2 (-2) 1) [(.ref a1)])) rfl rfl (hb hby d5_125)
  obtain ⟨T39, X39, e39, st39⟩ := getF X38 hx hZ hown (host := "") (Or.inl (ww hw 23 rfl)) Via.refl e38 f37 (g := (mkF m 131 (lc21 a1 q2 (-2) 1) [(.ref a1), (.int 1), (.ref a11)])) rfl rfl (hb hby d5_131)
  have f40 : Fld Z h31 a1 zs2 "count" "I" (.int 1) := (F10.keep K31 (ninS ne36 nin0))
  obtain ⟨T41, X41, e41, st41⟩ := getF X39 hx hZ hown (host := "") (Or.inl (ww hw 32 rfl)) Via.refl e39 f40 (g := (mkF m 139 (lc21 a1 q2 (-2) 1) [(.ref a1), (.int 2), (.ref a11), (.int 1), (.ref a11)])) rfl rfl (hb hby d5_139)
  have f44 : Arv Z h31 a11 kc14 .long (16 : Int32) [(.long q13)] (.long (0 : Int64)) := (F15.keep K31 (ninS ne43 nin0))
  have f45 : Arv Z h31 a11 kc14 .long (16 : Int32) [(.long q13), (.long 0)] (.long (0 : Int64)) := f44.pad (pad_rep [(.long q13)] (.long (0 : Int64)) 1)
  obtain ⟨T42, h42, L42, X42, e42, N42, K42, V42, st42⟩ := cpA X41 hx hZ hown (ww hw 54 rfl) (ww hw 57 rfl) (ww hw 55 rfl) (ww hw 56 rfl) e41 (us := []) f45 f45 (Or.inl ⟨rfl, rfl⟩) (by decide) (by decide) (by decide) (by decide) (by decide) rfl (Nat.le_of_ble_eq_true rfl) N31 g46 (g := (mkF m 145 (lc21 a1 q2 (-2) 1) [(.int 0), (.int 2), (.ref a11), (.int 1), (.ref a11)])) rfl (by rw [hml]; rfl) rfl (hb hby d5_145) (by decide) (W := 0) (by show 2 * 0 + _ ≤ _; exact Nat.le_of_eq rfl) (by decide)
  have f47 : Arv Z h42 a11 kc14 .long (16 : Int32) [(.long q13), (.long 0)] (.long (0 : Int64)) := V42
  obtain ⟨T48, h48, X48, e48, E48, A48, D48, -, st48⟩ := newO X42 hx hZ hown (ww hw 18 rfl) (ww hw 58 rfl) (ww hw 59 rfl) e42 (g := (mkF m 148 (lc21 a1 q2 (-2) 1) [])) rfl (hb hby d5_148) (by decide) (by decide)
  obtain ⟨b48, g48⟩ : ∃ z, z = h42.size := ⟨_, rfl⟩
  rw [← g48] at A48 D48 st48
  have f49 : Fld Z h48 b48 zs1 "price" zs10 .null := D48 (Or.inr (ww hw 65 rfl)) (ty := (.object zs13)) (by decide)
  have f50 : Fld Z h48 b48 zs1 "priceSteps" "J" (.long 0) := D48 (Or.inr (ww hw 67 rfl)) (ty := .long) (by decide)
  have f51 : Fld Z h48 b48 zs1 "first" zs11 .null := D48 (Or.inl (ww hw 78 rfl)) (ty := (.object zs14)) (by decide)
  have Z_1 : n0 ≤ h31.size := Nat.le_trans Z0 K31.1
  have Z_2 : n0 ≤ h42.size := Nat.le_trans Z_1 K42.1
  have g53 : n0 ≤ b48 := Nat.le_trans Z_2 (Nat.le_of_eq g48.symm)
  have Z_3 : n0 ≤ h48.size := Nat.le_trans Z_2 E48.1
  obtain ⟨_, T52, L52, X52, hQ52, st52⟩ := ocallI X48 hx hZ zm6 rfl hown (ww hw 60 rfl) (ww hw 61 rfl) (by decide) (ww hw 62 rfl) (ww hw 59 rfl) e48 (rm9_10 l Z a0 hw [] b48 q2 h48 n0 Z_3 f49 f50 f51 A48 g53) (st := [(.long q2), .null, (.ref b48), (.ref b48)]) rfl 1 rfl (by decide) (pc := 154) (Ls := (lc21 a1 q2 (-2) 1)) hml rfl (lenOf pd_5 rfl) d5_154 hby
  obtain ⟨rfl, N52q, K52, f54, f55, f56⟩ := hQ52
  have N57 := Fr.app N42 N52q
  have ne59 : a1 ≠ b48 := Nat.ne_of_lt (Nat.lt_of_lt_of_le (Nat.lt_of_lt_of_le (Nat.lt_of_lt_of_le (F5.lt) K31.1) K42.1) (Nat.le_of_eq g48.symm))
  have f60 : Fld Z T52.heap a1 zs2 "levels" zs3 (.ref a21) := ((Fld.ext E48 ((F22.keep K31 (ninS ne36 nin0)).keep K42 (ninS ne58 nin0))).keep K52 (ninS ne59 nin0))
  obtain ⟨T61, X61, e61, st61⟩ := getF X52 hx hZ hown (host := "") (Or.inl (ww hw 20 rfl)) Via.refl rfl f60 (g := (mkF m 160 (lc23 a1 q2 (-2) 1 b48) [(.ref a1)])) rfl rfl (hb hby d5_160)
  have ne62 : a21 ≠ b48 := Nat.ne_of_lt (Nat.lt_of_lt_of_le (Nat.lt_of_lt_of_le (f35.lt) K42.1) (Nat.le_of_eq g48.symm))
  have f63 : Arv Z T52.heap a21 kc25 (.object zs1) (16 : Int32) [(.ref a24), .null] .null := (((f35.keep K42 (ninS (Ne.symm ne43) nin0)).ext E48).keep K52 (ninS ne62 nin0))
  have f64 : Exa Z T52.heap b48 zs1 := (A48.keep K52)
  obtain ⟨cl65, Ar65, q65, S65, N65, H65, G65⟩ := id f63
  have hin66 : ¬ ((1 : Int32) < 0 ∨ cl65.slots.size ≤ ((1 : Int32)).toNatClampNeg) := inb_of S65 ⟨by decide, by decide⟩
  obtain ⟨T66, h66, X66, e66, W66, st66⟩ := stR X61 hx hZ e61 Ar65 (j := (1 : Int32)) hin66 rfl (Sto.ofV Ar65 q65 O34 (Ins.self f64)) (g := (mkF m 167 (lc23 a1 q2 (-2) 1 b48) [(.ref b48), (.int 1), (.ref a21)])) rfl rfl (hb hby d5_167)
  have N67 := Fr.snoc X66 N57 g33
  have f68 : Arv Z h66 a21 kc25 (.object zs1) (16 : Int32) [(.ref a24), (.ref b48)] .null := Arv.set Ar65 q65 S65 N65 H65 G65 (by rfl) W66 1 rfl (Nat.le_of_ble_eq_true rfl)
  have f69 : Fld Z h66 a1 zs2 "ranks" "[J" (.ref a11) := (Fld.other W66 ((Fld.ext E48 (f37.keep K42 (ninS ne58 nin0))).keep K52 (ninS ne59 nin0)) (Or.inl ne36))
  obtain ⟨T70, X70, e70, st70⟩ := getF X66 hx hZ hown (host := "") (Or.inl (ww hw 23 rfl)) Via.refl e66 f69 (g := (mkF m 169 (lc23 a1 q2 (-2) 1 b48) [(.ref a1)])) rfl rfl (hb hby d5_169)
  have f72 : Fld Z h66 a1 zs2 "side" zs4 (.ref a4) := (Fld.other W66 ((Fld.ext E48 ((F5.keep K31 (ninS ne36 nin0)).keep K42 (ninS ne58 nin0))).keep K52 (ninS ne59 nin0)) (Or.inl ne36))
  have f73 : Sta Z h66 zs6 "BUY" zs4 (.ref a6) := (Sta.wr W66 (own_staK (Sta.ext E48 (own_staK (own_staK F7 K31 (allS (own_nsV f32) all0)) K42 (allS (own_nsV f45) all0))) K52 (allS (own_nsF f49) all0)))
  have Z_4 : n0 ≤ T52.heap.size := Nat.le_trans Z_3 K52.1
  have Z_5 : n0 ≤ h66.size := Nat.le_trans Z_4 (Keep.of_wr W66).1
  have f74 : Exa Z h66 a1 zs2 := (Exa.wr W66 ((Exa.ext E48 ((F9.keep K31).keep K42)).keep K52))
  obtain ⟨_, T71, L71, X71, hQ71, st71⟩ := ocallP X70 hx hZ zm3 hown (ww hw 43 rfl) (ww hw 44 rfl) (own_selP (mvT hZ (ww hw 10 rfl)) (mvP hZ (ww hw 45 rfl)) (mvT hZ (ww hw 44 rfl)) (by decide)) (ww hw 45 rfl) (by decide) (ww hw 46 rfl) (ww hw 11 rfl) e70 f74 (rm7_48 l Z a0 hw [] a1 q2 a4 a6 h66 n0 Z_5 f72 f73 ha8) (st := [(.long q2), (.ref a1), (.int 1), (.ref a11)]) rfl 2 rfl (by decide) (pc := 176) (Ls := (lc23 a1 q2 (-2) 1 b48)) hml rfl (lenOf pd_0 rfl) d5_176 hby
  obtain ⟨rfl, N71q, e71⟩ := hQ71
  have N75 := Fr.app N67 N71q
  have ne76 : a11 ≠ b48 := Nat.ne_of_lt (Nat.lt_of_lt_of_le (f47.lt) (Nat.le_of_eq g48.symm))
  have f77 : Arv Z h66 a11 kc14 .long (16 : Int32) [(.long q13), (.long 0)] (.long (0 : Int64)) := (((f47.ext E48).keep K52 (ninS ne76 nin0)).other W66 ne43)
  obtain ⟨cl78, Ar78, q78, S78, N78, H78, G78⟩ := id f77
  have hin79 : ¬ ((1 : Int32) < 0 ∨ cl78.slots.size ≤ ((1 : Int32)).toNatClampNeg) := inb_of S78 ⟨by decide, by decide⟩
  obtain ⟨T79, h79, X79, e79, W79, st79⟩ := stJ X71 hx hZ e71 Ar78 (j := (1 : Int32)) hin79 (g := (mkF m 179 (lc23 a1 q2 (-2) 1 b48) [(.long (q2 ^^^ (-1 : Int64))), (.int 1), (.ref a11)])) rfl rfl (hb hby d5_179)
  have N80 := Fr.snoc X79 N75 g46
  have f81 : Arv Z h79 a11 kc14 .long (16 : Int32) [(.long q13), (.long (q2 ^^^ (-1 : Int64)))] (.long (0 : Int64)) := Arv.set Ar78 q78 S78 N78 H78 G78 (by rfl) W79 1 rfl (Nat.le_of_ble_eq_true rfl)
  have f82 : Fld Z h79 a1 zs2 "count" "I" (.int 1) := (Fld.other W79 (Fld.other W66 ((Fld.ext E48 (f40.keep K42 (ninS ne58 nin0))).keep K52 (ninS ne59 nin0)) (Or.inl ne36)) (Or.inl ne58))
  obtain ⟨T83, X83, e83, st83⟩ := getF X79 hx hZ hown (host := "") (Or.inl (ww hw 32 rfl)) Via.refl e79 f82 (g := (mkF m 182 (lc23 a1 q2 (-2) 1 b48) [(.ref a1), (.ref a1)])) rfl rfl (hb hby d5_182)
  have f85 : Exa Z h79 a1 zs2 := (Exa.wr W79 f74)
  obtain ⟨T86, h86, X86, e86, W86, st86⟩ := putF X83 hx hZ hown (host := "") (Or.inl (ww hw 32 rfl)) Via.refl e83 f82 f85 (Or.inl (ww hw 33 rfl)) (ww hw 10 rfl) (ty := .int) (by decide) rfl rfl (g := (mkF m 187 (lc23 a1 q2 (-2) 1 b48) [(.int 2), (.ref a1)])) rfl rfl (hb hby d5_187)
  have N88 := Fr.snoc X86 N80 g87
  have f89 : Fld Z h86 a1 zs2 "count" "I" (.int 2) := Fld.same W86 f82
  refine own_go (U' := T86.setTop (mkF m 192 (lc23 a1 q2 (-2) 1 b48) [(.ref b48)])) (fun t k => oicY (pc := 60) X23 hx hby d5_60 100 (by decide) (by decide) (oaloadN X23 hx hby d5_100 rfl rfl (st28 _ (oiload X28 hx hby d5_104 rfl (oaloadN X28 hx hby d5_106 rfl rfl (st29 _ (oiload X29 hx hby d5_110 rfl (oiconst X29 hx hby d5_112 (oiadd X29 hx hby d5_113 (oaloadN X29 hx hby d5_114 rfl rfl (st30 _ (oiload X30 hx hby d5_118 rfl (oisub X30 hx hby d5_120 (st31 _ (oaloadN X31 hx hby d5_124 rfl rfl (st38 _ (oiload X38 hx hby d5_128 rfl (oaloadN X38 hx hby d5_130 rfl rfl (st39 _ (oiload X39 hx hby d5_134 rfl (oiconst X39 hx hby d5_136 (oiadd X39 hx hby d5_137 (oaloadN X39 hx hby d5_138 rfl rfl (st41 _ (oiload X41 hx hby d5_142 rfl (oisub X41 hx hby d5_144 (st42 _ (st48 _ (odup X48 hx hby d5_151 rfl (oaloadN X48 hx hby d5_152 rfl rfl (olloadN X48 hx hby d5_153 rfl (st52 _ (oastore X52 hx hby d5_157 (lc23 a1 q2 (-2) 1 b48) rfl rfl (oaloadN X52 hx hby d5_159 rfl rfl (st61 _ (oiload X61 hx hby d5_163 rfl (oaload X61 hx hby d5_165 rfl rfl (st66 _ (oaloadN X66 hx hby d5_168 rfl rfl (st70 _ (oiload X70 hx hby d5_172 rfl (oaloadN X70 hx hby d5_174 rfl rfl (olloadN X70 hx hby d5_175 rfl (st71 _ (st79 _ (oaloadN X79 hx hby d5_180 rfl rfl (odup X79 hx hby d5_181 rfl (st83 _ (oiconst X83 hx hby d5_185 (oiadd X83 hx hby d5_186 (st86 _ (oaload X86 hx hby d5_190 rfl rfl k)))))))))))))))))))))))))))))))))))))))))))))))))))) ?_
  have f90 : Arv Z h86 a21 kc25 (.object zs1) (16 : Int32) [(.ref a24), (.ref b48)] .null := ((f68.other W79 (Ne.symm ne43)).other W86 (Ne.symm ne36))
  have f91 : Arv Z h86 a11 kc14 .long (16 : Int32) [(.long q13), (.long (q2 ^^^ (-1 : Int64)))] (.long (0 : Int64)) := (f81.other W86 (Ne.symm ne58))
  have f92 : Fld Z h86 a1 zs2 "side" zs4 (.ref a4) := (Fld.other W86 (Fld.other W79 f72 (Or.inl ne58)) (Or.inr (slot_ne (Or.inr (ww hw 26 rfl)) (Or.inl (ww hw 33 rfl)) (by decide) (t := (.object zs6)) (t' := .int) (by decide) (by decide))))
  have f93 : Fld Z h86 a1 zs2 "ranks" "[J" (.ref a11) := (Fld.other W86 (Fld.other W79 f69 (Or.inl ne58)) (Or.inr (slot_ne (Or.inl (ww hw 24 rfl)) (Or.inl (ww hw 33 rfl)) (by decide) (t := (.array .long)) (t' := .int) (by decide) (by decide))))
  have f94 : Fld Z h86 a1 zs2 "levels" zs3 (.ref a21) := (Fld.other W86 (Fld.other W79 (Fld.other W66 f60 (Or.inl ne36)) (Or.inl ne58)) (Or.inr (slot_ne (Or.inl (ww hw 21 rfl)) (Or.inl (ww hw 33 rfl)) (by decide) (t := (.array (.object zs1))) (t' := .int) (by decide) (by decide))))
  have f95 : Fld Z h86 a1 zs2 "emptyLevels" "I" (.int 0) := (Fld.other W86 (Fld.other W79 (Fld.other W66 ((Fld.ext E48 ((F84.keep K31 (ninS ne36 nin0)).keep K42 (ninS ne58 nin0))).keep K52 (ninS ne59 nin0)) (Or.inl ne36)) (Or.inl ne58)) (Or.inr (slot_ne (Or.inl (ww hw 80 rfl)) (Or.inl (ww hw 33 rfl)) (by decide) (t := .int) (t' := .int) (by decide) (by decide))))
  have f96 : Exa Z h86 b48 zs1 := (Exa.wr W86 (Exa.wr W79 (Exa.wr W66 f64)))
  have f97 : Fld Z h86 b48 zs1 "price" zs10 .null := (Fld.other W86 (Fld.other W79 (Fld.other W66 f54 (Or.inl (Ne.symm ne62))) (Or.inl (Ne.symm ne76))) (Or.inl (Ne.symm ne59)))
  have f98 : Fld Z h86 b48 zs1 "priceSteps" "J" (.long q2) := (Fld.other W86 (Fld.other W79 (Fld.other W66 f55 (Or.inl (Ne.symm ne62))) (Or.inl (Ne.symm ne76))) (Or.inl (Ne.symm ne59)))
  have f99 : Fld Z h86 b48 zs1 "first" zs11 .null := (Fld.other W86 (Fld.other W79 (Fld.other W66 f56 (Or.inl (Ne.symm ne62))) (Or.inl (Ne.symm ne76))) (Or.inl (Ne.symm ne59)))
  obtain ⟨fs, hr, hrun, hended, hW, hsame⟩ := X86.leave (v := some (.ref b48)) (fun h => by rw [Bd.returns] at h; cases h)
  refine own_out ⟨_, _, ?_, hrun, hended, _, _, rfl, ?_, ⟨_, rfl⟩, hW, hsame.mono (by decide) (by decide)⟩
  · exact retOut X86 hx Bd.returns rfl (Or.inr (Or.inr (Or.inr (Or.inr ⟨rfl, rfl, rfl⟩)))) (hb hby d5_192) hr
  · show Q5_54 Z a1 q2 a4 a6 a11 q13 kc14 a21 a24 kc25 h0 n0 _ T86.heap _
    rw [e86]
    exact ⟨b48, rfl, N88, ((((Keep.trans ((Keep.trans (Keep.trans (Keep.refl h0 [a21, a11, a1]) K31 (allS (Or.inl (List.mem_of_getElem? (i := 0) rfl)) all0)) K42 (allS (Or.inl (List.mem_of_getElem? (i := 1) rfl)) all0)).ext E48) K52 (allS (Or.inr (Nat.le_trans K31.1 (Nat.le_trans K42.1 (Nat.le_of_eq g48.symm)))) all0)).wr W66 (Or.inl (List.mem_of_getElem? (i := 0) rfl))).wr W79 (Or.inl (List.mem_of_getElem? (i := 1) rfl))).wr W86 (Or.inl (List.mem_of_getElem? (i := 2) rfl))), (Nat.le_trans K31.1 (Nat.le_trans K42.1 (Nat.le_of_eq g48.symm))), f90, f91, f92, f89, f93, f94, f95, f96, f97, f98, f99⟩
def Q10_55 (Z : State) (q1 : Int64) (q2 : Int64) (h0 : Heap) (n0 : Nat) (v : Option Value) (h : Heap) (L : List Loc) : Prop := v = some (.int 1) ∧ Fr n0 L ∧ h = h0
set_option maxRecDepth 65536 in
set_option maxHeartbeats 40000000 in
theorem rm10_55 (l : Launch) (Z : State) (a0 : Array Value) (hw : ∀ d ∈ tables_1, d.before a0 Z = true) (ws : List Jvm.Cond) (q1 : Int64) (q2 : Int64) (h0 : Heap) (n0 : Nat) (Z0 : n0 ≤ h0.size) (hc3 : q1 < q2) :
    MetFree l zm8 (head1 (Jvm.Cond.code zm8 method_3_code 5 (some .boolean) :: ws) ({ frames := 0, cells := 0, slots := 0, locals := 0 } : Room)) (fun a U => a = #[(.int 0), (.long q1), (.long q2)] ∧ Z.Warmed39 U.vm ∧ U.heap = h0) (fun _ _ _ _ _ => True) (fun _ U o U' => ∃ v L, o = .returned v ∧ Q10_55 Z q1 q2 h0 n0 v U'.heap L ∧ FrameEnd U o U' L ({ frames := 0, cells := 0, slots := 0, locals := 0 } : Room).cells ({ frames := 0, cells := 0, slots := 0, locals := 0 } : Room).slots) := by
  refine MetFree.of_bodySF (plainFor_of_name pn_com_example_srok_srok_engine_BookSideBestPinLaw) hisR ?_
  intro p e s m args below meth c s₁ Bd hml0 hP hK
  obtain ⟨rfl, hZ, hh⟩ := hP
  have hx := Bd.exec
  have hby := Bd.bytes
  have hml : c.maxLocals = 5 := hml0
  have hown : s.vm.findClass zs0 = some m.cls := findClass_of_methodNamed Bd.named
  have hnm := (name_of_methodNamed Bd.named Bd.method).1
  have X0 : Stand p l e ({ frames := 0, cells := 0, slots := 0, locals := 0 } : Room) s m #[(.int 0), (.long q1), (.long q2)] below meth c s₁ [] 0 0 := Stand.of_body Bd
  have e0 : s₁.heap = h0 := by rw [← hh, Bd.state]; rfl
  have N0 := Fr.nil n0
  refine own_pre (g' := mkF m 0 (lc26 0 q1 q2) []) (ef_8 m (0 : Int32) q1 q2) ?_
  refine own_go (U' := s₁.setTop (mkF m 1 (lc26 0 q1 q2) [(.int 0)])) (fun t k => oiloadN X0 hx hby d10_0 rfl k) ?_
  refine own_go (U' := s₁.setTop (mkF m 21 (lc26 0 q1 q2) [(.int (lcmpW q1 q2))])) (fun t k => oifY (pc := 1) X0 hx hby d10_1 18 (by decide) (by decide) (olloadN X0 hx hby d10_18 rfl (olloadN X0 hx hby d10_19 rfl (olcmp X0 hx hby d10_20 k)))) ?_
  refine own_go (U' := s₁.setTop (mkF m 29 (lc26 0 q1 q2) [(.int 1)])) (fun t k => oifN X0 hx hby d10_21 (own_ll_ge_f hc3) (oiconst X0 hx hby d10_24 (ogoto (pc := 25) X0 hx hby d10_25 29 (by decide) k))) ?_
  obtain ⟨fs, hr, hrun, hended, hW, hsame⟩ := X0.leave (v := some (.int 1)) (fun h => by rw [Bd.returns] at h; cases h)
  refine own_out ⟨_, _, ?_, hrun, hended, _, _, rfl, ?_, ⟨_, rfl⟩, hW, hsame.mono (by decide) (by decide)⟩
  · exact retN X0 hx (t := .boolean) Bd.returns (by simp) (hb hby d10_29) hr
  · show Q10_55 Z q1 q2 h0 n0 _ s₁.heap _
    rw [e0]
    exact ⟨rfl, N0, rfl⟩
def Q6_56 (Z : State) (a1 : Addr) (q2 : Int64) (a4 : Addr) (a6 : Addr) (a14 : Addr) (q17 : Int64) (q18 : Int64) (kc19 : ClassId) (h0 : Heap) (n0 : Nat) (v : Option Value) (h : Heap) (L : List Loc) : Prop := v = some (.int (-3)) ∧ Fr n0 L ∧ h = h0
set_option maxRecDepth 65536 in
set_option maxHeartbeats 40000000 in
theorem rm6_56 (l : Launch) (Z : State) (a0 : Array Value) (hw : ∀ d ∈ tables_1, d.before a0 Z = true) (ws : List Jvm.Cond) (a1 : Addr) (q2 : Int64) (a4 : Addr) (a6 : Addr) (a14 : Addr) (q17 : Int64) (q18 : Int64) (kc19 : ClassId) (h0 : Heap) (n0 : Nat) (Z0 : n0 ≤ h0.size) (F5 : Fld Z h0 a1 zs2 "side" zs4 (.ref a4)) (F7 : Sta Z h0 zs6 "BUY" zs4 (.ref a6)) (ha8 : a4 ≠ a6) (F9 : Exa Z h0 a1 zs2) (F12 : Fld Z h0 a1 zs2 "count" "I" (.int 2)) (F15 : Fld Z h0 a1 zs2 "ranks" "[J" (.ref a14)) (F20 : Arv Z h0 a14 kc19 .long (16 : Int32) [(.long q17), (.long q18)] (.long (0 : Int64))) (hc23 : q18 < (q2 ^^^ (-1 : Int64))) (hc27 : ¬ ((q2 ^^^ (-1 : Int64)) = (-9223372036854775808 : Int64))) (hc29 : ¬ ((q2 ^^^ (-1 : Int64)) = (9223372036854775807 : Int64))) :
    MetFree l zm5 (head1 (Jvm.Cond.code zm5 prog_2_method_8_code 11 (some .int) :: ws) ({ frames := 1, cells := 0, slots := 0, locals := 14 } : Room)) (fun a U => a = #[(.ref a1), (.long q2), .null] ∧ Z.Warmed39 U.vm ∧ U.heap = h0) (fun _ _ _ _ _ => True) (fun _ U o U' => ∃ v L, o = .returned v ∧ Q6_56 Z a1 q2 a4 a6 a14 q17 q18 kc19 h0 n0 v U'.heap L ∧ FrameEnd U o U' L ({ frames := 1, cells := 0, slots := 0, locals := 14 } : Room).cells ({ frames := 1, cells := 0, slots := 0, locals := 14 } : Room).slots) := by
  refine MetFree.of_bodySF (plainFor_of_name pn_com_example_srok_srok_engine_BookSide) hisR ?_
  intro p e s m args below meth c s₁ Bd hml0 hP hK
  obtain ⟨rfl, hZ, hh⟩ := hP
  have hx := Bd.exec
  have hby := Bd.bytes
  have hml : c.maxLocals = 11 := hml0
  have hown : s.vm.findClass zs2 = some m.cls := findClass_of_methodNamed Bd.named
  have hnm := (name_of_methodNamed Bd.named Bd.method).1
  have X0 : Stand p l e ({ frames := 1, cells := 0, slots := 0, locals := 14 } : Room) s m #[(.ref a1), (.long q2), .null] below meth c s₁ [] 0 0 := Stand.of_body Bd
  have e0 : s₁.heap = h0 := by rw [← hh, Bd.state]; rfl
  have N0 := Fr.nil n0
  refine own_pre (g' := mkF m 0 (lc11 a1 q2) []) (ef_5 m a1 q2) ?_
  obtain ⟨_, T3, L3, X3, hQ3, st3⟩ := ocallP X0 hx hZ zm3 hown (ww hw 43 rfl) (ww hw 44 rfl) (own_selP (mvT hZ (ww hw 10 rfl)) (mvP hZ (ww hw 45 rfl)) (mvT hZ (ww hw 44 rfl)) (by decide)) (ww hw 45 rfl) (by decide) (ww hw 46 rfl) (ww hw 11 rfl) e0 F9 (rm7_48 l Z a0 hw [] a1 q2 a4 a6 h0 n0 Z0 F5 F7 ha8) (st := [(.long q2), (.ref a1)]) rfl 0 rfl (by decide) (pc := 2) (Ls := (lc11 a1 q2)) hml rfl (lenOf pd_0 rfl) d6_2 hby
  obtain ⟨rfl, N3q, e3⟩ := hQ3
  have N10 := Fr.app N0 N3q
  refine own_go (U' := T3.setTop (mkF m 7 (lc13 a1 q2 (q2 ^^^ (-1 : Int64))) [])) (fun t k => oaloadN X0 hx hby d6_0 rfl rfl (olloadN X0 hx hby d6_1 rfl (st3 _ (olstore X3 hx hby d6_5 (lc13 a1 q2 (q2 ^^^ (-1 : Int64))) rfl k)))) ?_
  obtain ⟨z11, hz11⟩ : ∃ z, z = (q2 ^^^ (-1 : Int64)) := ⟨_, rfl⟩
  rw [← hz11]
  obtain ⟨T13, X13, e13, st13⟩ := getF X3 hx hZ hown (host := "") (Or.inl (ww hw 32 rfl)) Via.refl e3 F12 (g := (mkF m 8 (lc13 a1 q2 z11) [(.ref a1)])) rfl rfl (hb hby d6_8)
  refine own_go (U' := T13.setTop (mkF m 21 (lc15 a1 q2 z11 2 1) [(.int 1)])) (fun t k => oaloadN X3 hx hby d6_7 rfl rfl (st13 _ (oistore X13 hx hby d6_11 (lc14 a1 q2 z11 2) rfl (oiconst X13 hx hby d6_13 (oistore X13 hx hby d6_14 (lc15 a1 q2 z11 2 1) rfl (oiload X13 hx hby d6_16 rfl (oiload X13 hx hby d6_18 rfl (oisub X13 hx hby d6_20 k)))))))) ?_
  obtain ⟨T16, X16, e16, st16⟩ := getF X13 hx hZ hown (host := "") (Or.inl (ww hw 23 rfl)) Via.refl e13 F15 (g := (mkF m 25 (lc15 a1 q2 z11 2 1) [(.ref a1)])) rfl rfl (hb hby d6_25)
  obtain ⟨cl21, Ar21, q21, S21, N21, H21, G21⟩ := id F20
  have hin22 : ¬ ((1 : Int32) < 0 ∨ cl21.slots.size ≤ ((1 : Int32)).toNatClampNeg) := inb_of S21 ⟨by decide, by decide⟩
  have hat22 : cl21.slots[((1 : Int32)).toNatClampNeg]? = some (.long q18) := Has.at H21 hin22 rfl
  refine own_go (U' := T16.setTop (mkF m 37 (lc15 a1 q2 z11 2 1) [(.int (lcmpW q18 z11))])) (fun t k => oifN X13 hx hby d6_21 (by decide) (oaloadN X13 hx hby d6_24 rfl rfl (st16 _ (oiload X16 hx hby d6_28 rfl (oiload X16 hx hby d6_30 rfl (oisub X16 hx hby d6_32 (X16.laload hx (j := (1 : Int32)) (v := (.long q18)) (by rw [e16]; exact Ar21.1) (State.isArrayOf_alike hZ.alike Ar21.2.1) Ar21.2.2 hin22 hat22 (g := (mkF m 33 (lc15 a1 q2 z11 2 1) [(.int 1), (.ref a14)])) rfl rfl (hb hby d6_33) _ (olload X16 hx hby d6_34 rfl (olcmp X16 hx hby d6_36 k))))))))) ?_
  have hs24 : q18 < z11 := by rw [hz11]; exact hc23
  obtain ⟨_, T25, L25, X25, hQ25, st25⟩ := ocallS X16 hx hZ zm4 hown (ww hw 48 rfl) (ww hw 49 rfl) (by decide) (ww hw 51 rfl) (ww hw 50 rfl) e16 (rm8_20 l Z a0 hw []  h0 n0 Z0 ) (st := [(.int 2), (.int 0)]) rfl 0 rfl (by decide) (pc := 64) (Ls := (lc15 a1 q2 z11 2 1)) hml rfl (lenOf pd_3 rfl) d6_64 hby
  obtain ⟨rfl, N25q, e25⟩ := hQ25
  have N26 := Fr.app N10 N25q
  refine own_go (U' := T25.setTop (mkF m 79 (lc18 a1 q2 z11 2 1 2 0) [(.int 1), (.int 0)])) (fun t k => oifY (pc := 37) X16 hx hby d6_37 56 (own_ll_lt_t hs24) (by decide) (oiconst X16 hx hby d6_56 (oiload X16 hx hby d6_57 rfl (oiload X16 hx hby d6_59 rfl (oisub X16 hx hby d6_61 (oiconst X16 hx hby d6_62 (oiadd X16 hx hby d6_63 (st25 _ (oistore X25 hx hby d6_67 (lc17 a1 q2 z11 2 1 2) rfl (oiload X25 hx hby d6_69 rfl (oiload X25 hx hby d6_71 rfl (oisub X25 hx hby d6_73 (oistore X25 hx hby d6_74 (lc18 a1 q2 z11 2 1 2 0) rfl (oiload X25 hx hby d6_76 rfl (oiconst X25 hx hby d6_78 k))))))))))))))) ?_
  refine own_go (U' := T25.setTop (mkF m 132 (lc18 a1 q2 z11 2 1 2 0) [(.int 2), (.int 2)])) (fun t k => oicY (pc := 79) X25 hx hby d6_79 128 (by decide) (by decide) (oiload X25 hx hby d6_128 rfl (oiload X25 hx hby d6_130 rfl k))) ?_
  refine own_go (U' := T25.setTop (mkF m 157 (lc18 a1 q2 z11 2 1 2 0) [(.int (lcmpW z11 (-9223372036854775808 : Int64)))])) (fun t k => oicY (pc := 132) X25 hx hby d6_132 151 (by decide) (by decide) (olload X25 hx hby d6_151 rfl (X25.ldc2Long hx hown (mvT hZ (ww hw 52 rfl)) (g := (mkF m 153 (lc18 a1 q2 z11 2 1 2 0) [(.long z11)])) rfl (hb hby d6_153) _ (olcmp X25 hx hby d6_156 k)))) ?_
  have hs28 : ¬ (z11 = (-9223372036854775808 : Int64)) := by rw [hz11]; exact hc27
  refine own_go (U' := T25.setTop (mkF m 166 (lc18 a1 q2 z11 2 1 2 0) [(.int (lcmpW z11 (9223372036854775807 : Int64)))])) (fun t k => oifN X25 hx hby d6_157 (own_ll_eq_f hs28) (olload X25 hx hby d6_160 rfl (X25.ldc2Long hx hown (mvT hZ (ww hw 53 rfl)) (g := (mkF m 162 (lc18 a1 q2 z11 2 1 2 0) [(.long z11)])) rfl (hb hby d6_162) _ (olcmp X25 hx hby d6_165 k)))) ?_
  have hs30 : ¬ (z11 = (9223372036854775807 : Int64)) := by rw [hz11]; exact hc29
  refine own_go (U' := T25.setTop (mkF m 178 (lc18 a1 q2 z11 2 1 2 1) [(.int 1)])) (fun t k => oifN X25 hx hby d6_166 (own_ll_eq_f hs30) (oiconst X25 hx hby d6_169 (ogoto (pc := 170) X25 hx hby d6_170 174 (by decide) (oistore X25 hx hby d6_174 (lc18 a1 q2 z11 2 1 2 1) rfl (oiload X25 hx hby d6_176 rfl k))))) ?_
  obtain ⟨T31, X31, e31, st31⟩ := getF X25 hx hZ hown (host := "") (Or.inl (ww hw 32 rfl)) Via.refl e25 F12 (g := (mkF m 230 (lc18 a1 q2 z11 2 1 2 1) [(.ref a1), (.int 2)])) rfl rfl (hb hby d6_230)
  refine own_go (U' := T31.setTop (mkF m 233 (lc18 a1 q2 z11 2 1 2 1) [(.int 2), (.int 2)])) (fun t k => oifY (pc := 178) X25 hx hby d6_178 227 (by decide) (by decide) (oiload X25 hx hby d6_227 rfl (oaloadN X25 hx hby d6_229 rfl rfl (st31 _ k)))) ?_
  refine own_go (U' := T31.setTop (mkF m 280 (lc19 a1 q2 z11 2 1 2 1 0) [(.int 0)])) (fun t k => oicY (pc := 233) X31 hx hby d6_233 275 (by decide) (by decide) (oiconst X31 hx hby d6_275 (oistore X31 hx hby d6_276 (lc19 a1 q2 z11 2 1 2 1 0) rfl (oiload X31 hx hby d6_278 rfl k)))) ?_
  refine own_go (U' := T31.setTop (mkF m 292 (lc19 a1 q2 z11 2 1 2 1 0) [(.int ((-1 : Int32) - (2 : Int32)))])) (fun t k => oifY (pc := 280) X31 hx hby d6_280 288 (by decide) (by decide) (oiconst X31 hx hby d6_288 (oiload X31 hx hby d6_289 rfl (oisub X31 hx hby d6_291 k)))) ?_
  rw [show ((-1 : Int32) - (2 : Int32)) = (-3 : Int32) from by decide]
  obtain ⟨fs, hr, hrun, hended, hW, hsame⟩ := X31.leave (v := some (.int (-3))) (fun h => by rw [Bd.returns] at h; cases h)
  refine own_out ⟨_, _, ?_, hrun, hended, _, _, rfl, ?_, ⟨_, rfl⟩, hW, hsame.mono (by decide) (by decide)⟩
  · exact retI X31 hx Bd.returns (hb hby d6_292) hr
  · show Q6_56 Z a1 q2 a4 a6 a14 q17 q18 kc19 h0 n0 _ T31.heap _
    rw [e31]
    exact ⟨rfl, N26, rfl⟩
def Qmg6_57 (Z : State) (a1 : Addr) (q2 : Int64) (a3 : Addr) (a5 : Addr) (a10 : Addr) (q12 : Int64) (q13 : Int64) (kc14 : ClassId) (h0 : Heap) (n0 : Nat) (v : Option Value) (h : Heap) (L : List Loc) : Prop := v = some (.int (-3)) ∧ Fr n0 L ∧ h = h0
theorem mg6_57 (l : Launch) (Z : State) (a0 : Array Value) (hw : ∀ d ∈ tables_1, d.before a0 Z = true) (ws : List Jvm.Cond) (a1 : Addr) (q2 : Int64) (a3 : Addr) (a5 : Addr) (a10 : Addr) (q12 : Int64) (q13 : Int64) (kc14 : ClassId) (h0 : Heap) (n0 : Nat) (Z0 : n0 ≤ h0.size) (F4 : Fld Z h0 a1 zs2 "side" zs4 (.ref a3)) (F6 : Sta Z h0 zs6 "BUY" zs4 (.ref a5)) (ha7 : a3 ≠ a5) (F8 : Exa Z h0 a1 zs2) (F9 : Fld Z h0 a1 zs2 "count" "I" (.int 2)) (F11 : Fld Z h0 a1 zs2 "ranks" "[J" (.ref a10)) (F15 : Arv Z h0 a10 kc14 .long (16 : Int32) [(.long q12), (.long q13)] (.long (0 : Int64))) (hc16 : q13 < (q2 ^^^ (-1 : Int64))) (hc17 : ¬ ((q2 ^^^ (-1 : Int64)) = (-9223372036854775808 : Int64))) (hc18 : ¬ ((q2 ^^^ (-1 : Int64)) = (9223372036854775807 : Int64))) :
    MetFree l zm5 (head1 (Jvm.Cond.code zm5 prog_2_method_8_code 11 (some .int) :: ws) ({ frames := 1, cells := 0, slots := 0, locals := 14 } : Room)) (fun a U => a = #[(.ref a1), (.long q2), .null] ∧ Z.Warmed39 U.vm ∧ U.heap = h0) (fun _ _ _ _ _ => True) (fun _ U o U' => ∃ v L, o = .returned v ∧ Qmg6_57 Z a1 q2 a3 a5 a10 q12 q13 kc14 h0 n0 v U'.heap L ∧ FrameEnd U o U' L ({ frames := 1, cells := 0, slots := 0, locals := 14 } : Room).cells ({ frames := 1, cells := 0, slots := 0, locals := 14 } : Room).slots) := by
  exact rm6_56 l Z a0 hw ws a1 q2 a3 a5 a10 q12 q13 kc14 h0 n0 Z0 F4 F6 ha7 F8 F9 F11 F15 hc16 hc17 hc18
def Q5_58 (Z : State) (a1 : Addr) (q2 : Int64) (a4 : Addr) (a6 : Addr) (a11 : Addr) (q13 : Int64) (q14 : Int64) (kc15 : ClassId) (a22 : Addr) (a25 : Addr) (a26 : Addr) (kc27 : ClassId) (h0 : Heap) (n0 : Nat) (v : Option Value) (h : Heap) (L : List Loc) : Prop := ∃ b50 : Addr, v = some (.ref b50) ∧ Fr n0 L ∧ Keep h0 h [a22, a11, a1] ∧ h0.size ≤ b50 ∧ Arv Z h a22 kc27 (.object zs1) (16 : Int32) [(.ref a25), (.ref a26), (.ref b50)] .null ∧ Arv Z h a11 kc15 .long (16 : Int32) [(.long q13), (.long q14), (.long (q2 ^^^ (-1 : Int64)))] (.long (0 : Int64)) ∧ Fld Z h a1 zs2 "side" zs4 (.ref a4) ∧ Fld Z h a1 zs2 "count" "I" (.int 3) ∧ Fld Z h a1 zs2 "ranks" "[J" (.ref a11) ∧ Fld Z h a1 zs2 "levels" zs3 (.ref a22) ∧ Fld Z h a1 zs2 "emptyLevels" "I" (.int 0) ∧ Exa Z h b50 zs1 ∧ Fld Z h b50 zs1 "price" zs10 .null ∧ Fld Z h b50 zs1 "priceSteps" "J" (.long q2) ∧ Fld Z h b50 zs1 "first" zs11 .null
set_option maxRecDepth 65536 in
set_option maxHeartbeats 40000000 in
theorem rm5_58 (l : Launch) (Z : State) (a0 : Array Value) (hw : ∀ d ∈ tables_1, d.before a0 Z = true) (ws : List Jvm.Cond) (a1 : Addr) (q2 : Int64) (a4 : Addr) (a6 : Addr) (a11 : Addr) (q13 : Int64) (q14 : Int64) (kc15 : ClassId) (a22 : Addr) (a25 : Addr) (a26 : Addr) (kc27 : ClassId) (h0 : Heap) (n0 : Nat) (Z0 : n0 ≤ h0.size) (F5 : Fld Z h0 a1 zs2 "side" zs4 (.ref a4)) (F7 : Sta Z h0 zs6 "BUY" zs4 (.ref a6)) (ha8 : a4 ≠ a6) (F9 : Exa Z h0 a1 zs2) (F10 : Fld Z h0 a1 zs2 "count" "I" (.int 2)) (F12 : Fld Z h0 a1 zs2 "ranks" "[J" (.ref a11)) (F16 : Arv Z h0 a11 kc15 .long (16 : Int32) [(.long q13), (.long q14)] (.long (0 : Int64))) (hc17 : q14 < (q2 ^^^ (-1 : Int64))) (hc18 : ¬ ((q2 ^^^ (-1 : Int64)) = (-9223372036854775808 : Int64))) (hc19 : ¬ ((q2 ^^^ (-1 : Int64)) = (9223372036854775807 : Int64))) (F23 : Fld Z h0 a1 zs2 "levels" zs3 (.ref a22)) (F28 : Arv Z h0 a22 kc27 (.object zs1) (16 : Int32) [(.ref a25), (.ref a26)] .null) (g35 : n0 ≤ a22) (O36 : Ovr Z kc27 zs1) (ne38 : a1 ≠ a22) (ne45 : a11 ≠ a22) (g48 : n0 ≤ a11) (ne60 : a1 ≠ a11) (F86 : Fld Z h0 a1 zs2 "emptyLevels" "I" (.int 0)) (g89 : n0 ≤ a1) :
    MetFree l zm7 (head1 (Jvm.Cond.code zm7 prog_2_method_5_code 7 (some (.object zs1)) :: ws) ({ frames := 2, cells := 1, slots := 4, locals := 36 } : Room)) (fun a U => a = #[(.ref a1), (.long q2), .null] ∧ Z.Warmed39 U.vm ∧ U.heap = h0) (fun _ _ _ _ _ => True) (fun _ U o U' => ∃ v L, o = .returned v ∧ Q5_58 Z a1 q2 a4 a6 a11 q13 q14 kc15 a22 a25 a26 kc27 h0 n0 v U'.heap L ∧ FrameEnd U o U' L ({ frames := 2, cells := 1, slots := 4, locals := 36 } : Room).cells ({ frames := 2, cells := 1, slots := 4, locals := 36 } : Room).slots) := by
  refine MetFree.of_bodySF (plainFor_of_name pn_com_example_srok_srok_engine_BookSide) hisR ?_
  intro p e s m args below meth c s₁ Bd hml0 hP hK
  obtain ⟨rfl, hZ, hh⟩ := hP
  have hx := Bd.exec
  have hby := Bd.bytes
  have hml : c.maxLocals = 7 := hml0
  have hown : s.vm.findClass zs2 = some m.cls := findClass_of_methodNamed Bd.named
  have hnm := (name_of_methodNamed Bd.named Bd.method).1
  have X0 : Stand p l e ({ frames := 2, cells := 1, slots := 4, locals := 36 } : Room) s m #[(.ref a1), (.long q2), .null] below meth c s₁ [] 0 0 := Stand.of_body Bd
  have e0 : s₁.heap = h0 := by rw [← hh, Bd.state]; rfl
  have N0 := Fr.nil n0
  refine own_pre (g' := mkF m 0 (lc10 a1 q2) []) (ef_7 m a1 q2) ?_
  obtain ⟨_, T3, L3, X3, hQ3, st3⟩ := ocallP X0 hx hZ zm5 hown (ww hw 39 rfl) (ww hw 40 rfl) (own_selP (mvT hZ (ww hw 10 rfl)) (mvP hZ (ww hw 41 rfl)) (mvT hZ (ww hw 40 rfl)) (by decide)) (ww hw 41 rfl) (by decide) (ww hw 42 rfl) (ww hw 11 rfl) e0 F9 (mg6_57 l Z a0 hw [] a1 q2 a4 a6 a11 q13 q14 kc15 h0 n0 Z0 F5 F7 ha8 F9 F10 F12 F16 hc17 hc18 hc19) (st := [.null, (.long q2), (.ref a1)]) rfl 0 rfl (by decide) (pc := 3) (Ls := (lc10 a1 q2)) hml rfl (lenOf pd_4 rfl) d5_3 hby
  obtain ⟨rfl, N3q, e3⟩ := hQ3
  have N20 := Fr.app N0 N3q
  refine own_go (U' := T3.setTop (mkF m 10 (lc20 a1 q2 (-3)) [(.int (-3))])) (fun t k => oaloadN X0 hx hby d5_0 rfl rfl (olloadN X0 hx hby d5_1 rfl (oaloadN X0 hx hby d5_2 rfl rfl (st3 _ (oistore X3 hx hby d5_6 (lc20 a1 q2 (-3)) rfl (oiload X3 hx hby d5_8 rfl k)))))) ?_
  refine own_go (U' := T3.setTop (mkF m 47 (lc20 a1 q2 (-3)) [(.int (-(-3 : Int32)))])) (fun t k => oifY (pc := 10) X3 hx hby d5_10 44 (by decide) (by decide) (oiload X3 hx hby d5_44 rfl (oineg X3 hx hby d5_46 k))) ?_
  rw [show (-(-3 : Int32)) = (3 : Int32) from by decide]
  obtain ⟨T21, X21, e21, st21⟩ := getF X3 hx hZ hown (host := "") (Or.inl (ww hw 32 rfl)) Via.refl e3 F10 (g := (mkF m 52 (lc21 a1 q2 (-3) 2) [(.ref a1)])) rfl rfl (hb hby d5_52)
  obtain ⟨T24, X24, e24, st24⟩ := getF X21 hx hZ hown (host := "") (Or.inl (ww hw 20 rfl)) Via.refl e21 F23 (g := (mkF m 56 (lc21 a1 q2 (-3) 2) [(.ref a1), (.int 2)])) rfl rfl (hb hby d5_56)
  refine own_go (U' := T24.setTop (mkF m 59 (lc21 a1 q2 (-3) 2) [(.ref a22), (.int 2)])) (fun t k => oiconst X3 hx hby d5_47 (oisub X3 hx hby d5_48 (oistore X3 hx hby d5_49 (lc21 a1 q2 (-3) 2) rfl (oaloadN X3 hx hby d5_51 rfl rfl (st21 _ (oaloadN X21 hx hby d5_55 rfl rfl (st24 _ k))))))) ?_
  obtain ⟨cl29, Ar29, q29, S29, N29, H29, G29⟩ := id F28
  refine own_go (fun t k => X24.arraylength hx (by rw [e24]; exact Ar29.1) (State.isArrayOf_alike hZ.alike Ar29.2.1) (g := (mkF m 59 (lc21 a1 q2 (-3) 2) [(.ref a22), (.int 2)])) rfl rfl (hb hby d5_59) _ k) ?_
  rw [len_of S29 N29]
  obtain ⟨T30, X30, e30, st30⟩ := getF X24 hx hZ hown (host := "") (Or.inl (ww hw 20 rfl)) Via.refl e24 F23 (g := (mkF m 101 (lc21 a1 q2 (-3) 2) [(.ref a1)])) rfl rfl (hb hby d5_101)
  obtain ⟨T31, X31, e31, st31⟩ := getF X30 hx hZ hown (host := "") (Or.inl (ww hw 20 rfl)) Via.refl e30 F23 (g := (mkF m 107 (lc21 a1 q2 (-3) 2) [(.ref a1), (.int 2), (.ref a22)])) rfl rfl (hb hby d5_107)
  obtain ⟨T32, X32, e32, st32⟩ := getF X31 hx hZ hown (host := "") (Or.inl (ww hw 32 rfl)) Via.refl e31 F10 (g := (mkF m 115 (lc21 a1 q2 (-3) 2) [(.ref a1), (.int 3), (.ref a22), (.int 2), (.ref a22)])) rfl rfl (hb hby d5_115)
  have f34 : Arv Z h0 a22 kc27 (.object zs1) (16 : Int32) [(.ref a25), (.ref a26), .null] .null := F28.pad (pad_rep [(.ref a25), (.ref a26)] .null 1)
  obtain ⟨cl33, Ar33, q33, -⟩ := id f34
  obtain ⟨T33, h33, L33, X33, e33, N33, K33, V33, st33⟩ := cpA X32 hx hZ hown (ww hw 54 rfl) (ww hw 57 rfl) (ww hw 55 rfl) (ww hw 56 rfl) e32 (us := []) f34 f34 (Or.inr ⟨rfl, rfl, trivial⟩) (by decide) (by decide) (by decide) (by decide) (by decide) rfl (Nat.le_of_ble_eq_true rfl) N20 g35 (g := (mkF m 121 (lc21 a1 q2 (-3) 2) [(.int 0), (.int 3), (.ref a22), (.int 2), (.ref a22)])) rfl (by rw [hml]; rfl) rfl (hb hby d5_121) (by decide) (W := 0) (by show 2 * 0 + _ ≤ _; exact Nat.le_of_eq rfl) (by decide)
  have f37 : Arv Z h33 a22 kc27 (.object zs1) (16 : Int32) [(.ref a25), (.ref a26), .null] .null := V33
  have f39 : Fld Z h33 a1 zs2 "ranks" "[J" (.ref a11) := (F12.keep K33 (ninS ne38 nin0))
  obtain ⟨T40, X40, e40, st40⟩ := getF X33 hx hZ hown (host := "") (Or.inl (ww hw 23 rfl)) Via.refl e33 f39 (g := (mkF m 125 (lc21 a1 q2 (-3) 2) [(.ref a1)])) rfl rfl (hb hby d5_125)
  obtain ⟨T41, X41, e41, st41⟩ := getF X40 hx hZ hown (host := "") (Or.inl (ww hw 23 rfl)) Via.refl e40 f39 (g := (mkF m 131 (lc21 a1 q2 (-3) 2) [(.ref a1), (.int 2), (.ref a11)])) rfl rfl (hb hby d5_131)
  have f42 : Fld Z h33 a1 zs2 "count" "I" (.int 2) := (F10.keep K33 (ninS ne38 nin0))
  obtain ⟨T43, X43, e43, st43⟩ := getF X41 hx hZ hown (host := "") (Or.inl (ww hw 32 rfl)) Via.refl e41 f42 (g := (mkF m 139 (lc21 a1 q2 (-3) 2) [(.ref a1), (.int 3), (.ref a11), (.int 2), (.ref a11)])) rfl rfl (hb hby d5_139)
  have f46 : Arv Z h33 a11 kc15 .long (16 : Int32) [(.long q13), (.long q14)] (.long (0 : Int64)) := (F16.keep K33 (ninS ne45 nin0))
  have f47 : Arv Z h33 a11 kc15 .long (16 : Int32) [(.long q13), (.long q14), (.long 0)] (.long (0 : Int64)) := f46.pad (pad_rep [(.long q13), (.long q14)] (.long (0 : Int64)) 1)
  obtain ⟨T44, h44, L44, X44, e44, N44, K44, V44, st44⟩ := cpA X43 hx hZ hown (ww hw 54 rfl) (ww hw 57 rfl) (ww hw 55 rfl) (ww hw 56 rfl) e43 (us := []) f47 f47 (Or.inl ⟨rfl, rfl⟩) (by decide) (by decide) (by decide) (by decide) (by decide) rfl (Nat.le_of_ble_eq_true rfl) N33 g48 (g := (mkF m 145 (lc21 a1 q2 (-3) 2) [(.int 0), (.int 3), (.ref a11), (.int 2), (.ref a11)])) rfl (by rw [hml]; rfl) rfl (hb hby d5_145) (by decide) (W := 0) (by show 2 * 0 + _ ≤ _; exact Nat.le_of_eq rfl) (by decide)
  have f49 : Arv Z h44 a11 kc15 .long (16 : Int32) [(.long q13), (.long q14), (.long 0)] (.long (0 : Int64)) := V44
  obtain ⟨T50, h50, X50, e50, E50, A50, D50, -, st50⟩ := newO X44 hx hZ hown (ww hw 18 rfl) (ww hw 58 rfl) (ww hw 59 rfl) e44 (g := (mkF m 148 (lc21 a1 q2 (-3) 2) [])) rfl (hb hby d5_148) (by decide) (by decide)
  obtain ⟨b50, g50⟩ : ∃ z, z = h44.size := ⟨_, rfl⟩
  rw [← g50] at A50 D50 st50
  have f51 : Fld Z h50 b50 zs1 "price" zs10 .null := D50 (Or.inr (ww hw 65 rfl)) (ty := (.object zs13)) (by decide)
  have f52 : Fld Z h50 b50 zs1 "priceSteps" "J" (.long 0) := D50 (Or.inr (ww hw 67 rfl)) (ty := .long) (by decide)
  have f53 : Fld Z h50 b50 zs1 "first" zs11 .null := D50 (Or.inl (ww hw 78 rfl)) (ty := (.object zs14)) (by decide)
  have Z_1 : n0 ≤ h33.size := Nat.le_trans Z0 K33.1
  have Z_2 : n0 ≤ h44.size := Nat.le_trans Z_1 K44.1
  have g55 : n0 ≤ b50 := Nat.le_trans Z_2 (Nat.le_of_eq g50.symm)
  have Z_3 : n0 ≤ h50.size := Nat.le_trans Z_2 E50.1
  obtain ⟨_, T54, L54, X54, hQ54, st54⟩ := ocallI X50 hx hZ zm6 rfl hown (ww hw 60 rfl) (ww hw 61 rfl) (by decide) (ww hw 62 rfl) (ww hw 59 rfl) e50 (rm9_10 l Z a0 hw [] b50 q2 h50 n0 Z_3 f51 f52 f53 A50 g55) (st := [(.long q2), .null, (.ref b50), (.ref b50)]) rfl 1 rfl (by decide) (pc := 154) (Ls := (lc21 a1 q2 (-3) 2)) hml rfl (lenOf pd_5 rfl) d5_154 hby
  obtain ⟨rfl, N54q, K54, f56, f57, f58⟩ := hQ54
  have N59 := Fr.app N44 N54q
  have ne61 : a1 ≠ b50 := Nat.ne_of_lt (Nat.lt_of_lt_of_le (Nat.lt_of_lt_of_le (Nat.lt_of_lt_of_le (F5.lt) K33.1) K44.1) (Nat.le_of_eq g50.symm))
  have f62 : Fld Z T54.heap a1 zs2 "levels" zs3 (.ref a22) := ((Fld.ext E50 ((F23.keep K33 (ninS ne38 nin0)).keep K44 (ninS ne60 nin0))).keep K54 (ninS ne61 nin0))
  obtain ⟨T63, X63, e63, st63⟩ := getF X54 hx hZ hown (host := "") (Or.inl (ww hw 20 rfl)) Via.refl rfl f62 (g := (mkF m 160 (lc23 a1 q2 (-3) 2 b50) [(.ref a1)])) rfl rfl (hb hby d5_160)
  have ne64 : a22 ≠ b50 := Nat.ne_of_lt (Nat.lt_of_lt_of_le (Nat.lt_of_lt_of_le (f37.lt) K44.1) (Nat.le_of_eq g50.symm))
  have f65 : Arv Z T54.heap a22 kc27 (.object zs1) (16 : Int32) [(.ref a25), (.ref a26), .null] .null := (((f37.keep K44 (ninS (Ne.symm ne45) nin0)).ext E50).keep K54 (ninS ne64 nin0))
  have f66 : Exa Z T54.heap b50 zs1 := (A50.keep K54)
  obtain ⟨cl67, Ar67, q67, S67, N67, H67, G67⟩ := id f65
  have hin68 : ¬ ((2 : Int32) < 0 ∨ cl67.slots.size ≤ ((2 : Int32)).toNatClampNeg) := inb_of S67 ⟨by decide, by decide⟩
  obtain ⟨T68, h68, X68, e68, W68, st68⟩ := stR X63 hx hZ e63 Ar67 (j := (2 : Int32)) hin68 rfl (Sto.ofV Ar67 q67 O36 (Ins.self f66)) (g := (mkF m 167 (lc23 a1 q2 (-3) 2 b50) [(.ref b50), (.int 2), (.ref a22)])) rfl rfl (hb hby d5_167)
  have N69 := Fr.snoc X68 N59 g35
  have f70 : Arv Z h68 a22 kc27 (.object zs1) (16 : Int32) [(.ref a25), (.ref a26), (.ref b50)] .null := Arv.set Ar67 q67 S67 N67 H67 G67 (by rfl) W68 2 rfl (Nat.le_of_ble_eq_true rfl)
  have f71 : Fld Z h68 a1 zs2 "ranks" "[J" (.ref a11) := (Fld.other W68 ((Fld.ext E50 (f39.keep K44 (ninS ne60 nin0))).keep K54 (ninS ne61 nin0)) (Or.inl ne38))
  obtain ⟨T72, X72, e72, st72⟩ := getF X68 hx hZ hown (host := "") (Or.inl (ww hw 23 rfl)) Via.refl e68 f71 (g := (mkF m 169 (lc23 a1 q2 (-3) 2 b50) [(.ref a1)])) rfl rfl (hb hby d5_169)
  have f74 : Fld Z h68 a1 zs2 "side" zs4 (.ref a4) := (Fld.other W68 ((Fld.ext E50 ((F5.keep K33 (ninS ne38 nin0)).keep K44 (ninS ne60 nin0))).keep K54 (ninS ne61 nin0)) (Or.inl ne38))
  have f75 : Sta Z h68 zs6 "BUY" zs4 (.ref a6) := (Sta.wr W68 (own_staK (Sta.ext E50 (own_staK (own_staK F7 K33 (allS (own_nsV f34) all0)) K44 (allS (own_nsV f47) all0))) K54 (allS (own_nsF f51) all0)))
  have Z_4 : n0 ≤ T54.heap.size := Nat.le_trans Z_3 K54.1
  have Z_5 : n0 ≤ h68.size := Nat.le_trans Z_4 (Keep.of_wr W68).1
  have f76 : Exa Z h68 a1 zs2 := (Exa.wr W68 ((Exa.ext E50 ((F9.keep K33).keep K44)).keep K54))
  obtain ⟨_, T73, L73, X73, hQ73, st73⟩ := ocallP X72 hx hZ zm3 hown (ww hw 43 rfl) (ww hw 44 rfl) (own_selP (mvT hZ (ww hw 10 rfl)) (mvP hZ (ww hw 45 rfl)) (mvT hZ (ww hw 44 rfl)) (by decide)) (ww hw 45 rfl) (by decide) (ww hw 46 rfl) (ww hw 11 rfl) e72 f76 (rm7_48 l Z a0 hw [] a1 q2 a4 a6 h68 n0 Z_5 f74 f75 ha8) (st := [(.long q2), (.ref a1), (.int 2), (.ref a11)]) rfl 2 rfl (by decide) (pc := 176) (Ls := (lc23 a1 q2 (-3) 2 b50)) hml rfl (lenOf pd_0 rfl) d5_176 hby
  obtain ⟨rfl, N73q, e73⟩ := hQ73
  have N77 := Fr.app N69 N73q
  have ne78 : a11 ≠ b50 := Nat.ne_of_lt (Nat.lt_of_lt_of_le (f49.lt) (Nat.le_of_eq g50.symm))
  have f79 : Arv Z h68 a11 kc15 .long (16 : Int32) [(.long q13), (.long q14), (.long 0)] (.long (0 : Int64)) := (((f49.ext E50).keep K54 (ninS ne78 nin0)).other W68 ne45)
  obtain ⟨cl80, Ar80, q80, S80, N80, H80, G80⟩ := id f79
  have hin81 : ¬ ((2 : Int32) < 0 ∨ cl80.slots.size ≤ ((2 : Int32)).toNatClampNeg) := inb_of S80 ⟨by decide, by decide⟩
  obtain ⟨T81, h81, X81, e81, W81, st81⟩ := stJ X73 hx hZ e73 Ar80 (j := (2 : Int32)) hin81 (g := (mkF m 179 (lc23 a1 q2 (-3) 2 b50) [(.long (q2 ^^^ (-1 : Int64))), (.int 2), (.ref a11)])) rfl rfl (hb hby d5_179)
  have N82 := Fr.snoc X81 N77 g48
  have f83 : Arv Z h81 a11 kc15 .long (16 : Int32) [(.long q13), (.long q14), (.long (q2 ^^^ (-1 : Int64)))] (.long (0 : Int64)) := Arv.set Ar80 q80 S80 N80 H80 G80 (by rfl) W81 2 rfl (Nat.le_of_ble_eq_true rfl)
  have f84 : Fld Z h81 a1 zs2 "count" "I" (.int 2) := (Fld.other W81 (Fld.other W68 ((Fld.ext E50 (f42.keep K44 (ninS ne60 nin0))).keep K54 (ninS ne61 nin0)) (Or.inl ne38)) (Or.inl ne60))
  obtain ⟨T85, X85, e85, st85⟩ := getF X81 hx hZ hown (host := "") (Or.inl (ww hw 32 rfl)) Via.refl e81 f84 (g := (mkF m 182 (lc23 a1 q2 (-3) 2 b50) [(.ref a1), (.ref a1)])) rfl rfl (hb hby d5_182)
  have f87 : Exa Z h81 a1 zs2 := (Exa.wr W81 f76)
  obtain ⟨T88, h88, X88, e88, W88, st88⟩ := putF X85 hx hZ hown (host := "") (Or.inl (ww hw 32 rfl)) Via.refl e85 f84 f87 (Or.inl (ww hw 33 rfl)) (ww hw 10 rfl) (ty := .int) (by decide) rfl rfl (g := (mkF m 187 (lc23 a1 q2 (-3) 2 b50) [(.int 3), (.ref a1)])) rfl rfl (hb hby d5_187)
  have N90 := Fr.snoc X88 N82 g89
  have f91 : Fld Z h88 a1 zs2 "count" "I" (.int 3) := Fld.same W88 f84
  refine own_go (U' := T88.setTop (mkF m 192 (lc23 a1 q2 (-3) 2 b50) [(.ref b50)])) (fun t k => oicY (pc := 60) X24 hx hby d5_60 100 (by decide) (by decide) (oaloadN X24 hx hby d5_100 rfl rfl (st30 _ (oiload X30 hx hby d5_104 rfl (oaloadN X30 hx hby d5_106 rfl rfl (st31 _ (oiload X31 hx hby d5_110 rfl (oiconst X31 hx hby d5_112 (oiadd X31 hx hby d5_113 (oaloadN X31 hx hby d5_114 rfl rfl (st32 _ (oiload X32 hx hby d5_118 rfl (oisub X32 hx hby d5_120 (st33 _ (oaloadN X33 hx hby d5_124 rfl rfl (st40 _ (oiload X40 hx hby d5_128 rfl (oaloadN X40 hx hby d5_130 rfl rfl (st41 _ (oiload X41 hx hby d5_134 rfl (oiconst X41 hx hby d5_136 (oiadd X41 hx hby d5_137 (oaloadN X41 hx hby d5_138 rfl rfl (st43 _ (oiload X43 hx hby d5_142 rfl (oisub X43 hx hby d5_144 (st44 _ (st50 _ (odup X50 hx hby d5_151 rfl (oaloadN X50 hx hby d5_152 rfl rfl (olloadN X50 hx hby d5_153 rfl (st54 _ (oastore X54 hx hby d5_157 (lc23 a1 q2 (-3) 2 b50) rfl rfl (oaloadN X54 hx hby d5_159 rfl rfl (st63 _ (oiload X63 hx hby d5_163 rfl (oaload X63 hx hby d5_165 rfl rfl (st68 _ (oaloadN X68 hx hby d5_168 rfl rfl (st72 _ (oiload X72 hx hby d5_172 rfl (oaloadN X72 hx hby d5_174 rfl rfl (olloadN X72 hx hby d5_175 rfl (st73 _ (st81 _ (oaloadN X81 hx hby d5_180 rfl rfl (odup X81 hx hby d5_181 rfl (st85 _ (oiconst X85 hx hby d5_185 (oiadd X85 hx hby d5_186 (st88 _ (oaload X88 hx hby d5_190 rfl rfl k)))))))))))))))))))))))))))))))))))))))))))))))))))) ?_
  have f92 : Arv Z h88 a22 kc27 (.object zs1) (16 : Int32) [(.ref a25), (.ref a26), (.ref b50)] .null := ((f70.other W81 (Ne.symm ne45)).other W88 (Ne.symm ne38))
  have f93 : Arv Z h88 a11 kc15 .long (16 : Int32) [(.long q13), (.long q14), (.long (q2 ^^^ (-1 : Int64)))] (.long (0 : Int64)) := (f83.other W88 (Ne.symm ne60))
  have f94 : Fld Z h88 a1 zs2 "side" zs4 (.ref a4) := (Fld.other W88 (Fld.other W81 f74 (Or.inl ne60)) (Or.inr (slot_ne (Or.inr (ww hw 26 rfl)) (Or.inl (ww hw 33 rfl)) (by decide) (t := (.object zs6)) (t' := .int) (by decide) (by decide))))
  have f95 : Fld Z h88 a1 zs2 "ranks" "[J" (.ref a11) := (Fld.other W88 (Fld.other W81 f71 (Or.inl ne60)) (Or.inr (slot_ne (Or.inl (ww hw 24 rfl)) (Or.inl (ww hw 33 rfl)) (by decide) (t := (.array .long)) (t' := .int) (by decide) (by decide))))
  have f96 : Fld Z h88 a1 zs2 "levels" zs3 (.ref a22) := (Fld.other W88 (Fld.other W81 (Fld.other W68 f62 (Or.inl ne38)) (Or.inl ne60)) (Or.inr (slot_ne (Or.inl (ww hw 21 rfl)) (Or.inl (ww hw 33 rfl)) (by decide) (t := (.array (.object zs1))) (t' := .int) (by decide) (by decide))))
  have f97 : Fld Z h88 a1 zs2 "emptyLevels" "I" (.int 0) := (Fld.other W88 (Fld.other W81 (Fld.other W68 ((Fld.ext E50 ((F86.keep K33 (ninS ne38 nin0)).keep K44 (ninS ne60 nin0))).keep K54 (ninS ne61 nin0)) (Or.inl ne38)) (Or.inl ne60)) (Or.inr (slot_ne (Or.inl (ww hw 80 rfl)) (Or.inl (ww hw 33 rfl)) (by decide) (t := .int) (t' := .int) (by decide) (by decide))))
  have f98 : Exa Z h88 b50 zs1 := (Exa.wr W88 (Exa.wr W81 (Exa.wr W68 f66)))
  have f99 : Fld Z h88 b50 zs1 "price" zs10 .null := (Fld.other W88 (Fld.other W81 (Fld.other W68 f56 (Or.inl (Ne.symm ne64))) (Or.inl (Ne.symm ne78))) (Or.inl (Ne.symm ne61)))
  have f100 : Fld Z h88 b50 zs1 "priceSteps" "J" (.long q2) := (Fld.other W88 (Fld.other W81 (Fld.other W68 f57 (Or.inl (Ne.symm ne64))) (Or.inl (Ne.symm ne78))) (Or.inl (Ne.symm ne61)))
  have f101 : Fld Z h88 b50 zs1 "first" zs11 .null := (Fld.other W88 (Fld.other W81 (Fld.other W68 f58 (Or.inl (Ne.symm ne64))) (Or.inl (Ne.symm ne78))) (Or.inl (Ne.symm ne61)))
  obtain ⟨fs, hr, hrun, hended, hW, hsame⟩ := X88.leave (v := some (.ref b50)) (fun h => by rw [Bd.returns] at h; cases h)
  refine own_out ⟨_, _, ?_, hrun, hended, _, _, rfl, ?_, ⟨_, rfl⟩, hW, hsame.mono (by decide) (by decide)⟩
  · exact retOut X88 hx Bd.returns rfl (Or.inr (Or.inr (Or.inr (Or.inr ⟨rfl, rfl, rfl⟩)))) (hb hby d5_192) hr
  · show Q5_58 Z a1 q2 a4 a6 a11 q13 q14 kc15 a22 a25 a26 kc27 h0 n0 _ T88.heap _
    rw [e88]
    exact ⟨b50, rfl, N90, ((((Keep.trans ((Keep.trans (Keep.trans (Keep.refl h0 [a22, a11, a1]) K33 (allS (Or.inl (List.mem_of_getElem? (i := 0) rfl)) all0)) K44 (allS (Or.inl (List.mem_of_getElem? (i := 1) rfl)) all0)).ext E50) K54 (allS (Or.inr (Nat.le_trans K33.1 (Nat.le_trans K44.1 (Nat.le_of_eq g50.symm)))) all0)).wr W68 (Or.inl (List.mem_of_getElem? (i := 0) rfl))).wr W81 (Or.inl (List.mem_of_getElem? (i := 1) rfl))).wr W88 (Or.inl (List.mem_of_getElem? (i := 2) rfl))), (Nat.le_trans K33.1 (Nat.le_trans K44.1 (Nat.le_of_eq g50.symm))), f92, f93, f94, f91, f95, f96, f97, f98, f99, f100, f101⟩
def Q6_59 (Z : State) (a1 : Addr) (q2 : Int64) (a4 : Addr) (a6 : Addr) (a14 : Addr) (q17 : Int64) (q18 : Int64) (kc19 : ClassId) (h0 : Heap) (n0 : Nat) (v : Option Value) (h : Heap) (L : List Loc) : Prop := v = some (.int 1) ∧ Fr n0 L ∧ h = h0
set_option maxRecDepth 65536 in
set_option maxHeartbeats 40000000 in
theorem rm6_59 (l : Launch) (Z : State) (a0 : Array Value) (hw : ∀ d ∈ tables_1, d.before a0 Z = true) (ws : List Jvm.Cond) (a1 : Addr) (q2 : Int64) (a4 : Addr) (a6 : Addr) (a14 : Addr) (q17 : Int64) (q18 : Int64) (kc19 : ClassId) (h0 : Heap) (n0 : Nat) (Z0 : n0 ≤ h0.size) (F5 : Fld Z h0 a1 zs2 "side" zs4 (.ref a4)) (F7 : Sta Z h0 zs6 "BUY" zs4 (.ref a6)) (ha8 : a4 ≠ a6) (F9 : Exa Z h0 a1 zs2) (F12 : Fld Z h0 a1 zs2 "count" "I" (.int 2)) (F15 : Fld Z h0 a1 zs2 "ranks" "[J" (.ref a14)) (F20 : Arv Z h0 a14 kc19 .long (16 : Int32) [(.long q17), (.long q18)] (.long (0 : Int64))) (hc23 : ¬ (q18 < (q2 ^^^ (-1 : Int64)))) (hc30 : q17 < (q2 ^^^ (-1 : Int64))) (hc32 : ¬ ((q2 ^^^ (-1 : Int64)) = (-9223372036854775808 : Int64))) (hc34 : ¬ ((q2 ^^^ (-1 : Int64)) = (9223372036854775807 : Int64))) (hc40 : q18 = (q2 ^^^ (-1 : Int64))) :
    MetFree l zm5 (head1 (Jvm.Cond.code zm5 prog_2_method_8_code 11 (some .int) :: ws) ({ frames := 1, cells := 0, slots := 0, locals := 14 } : Room)) (fun a U => a = #[(.ref a1), (.long q2), .null] ∧ Z.Warmed39 U.vm ∧ U.heap = h0) (fun _ _ _ _ _ => True) (fun _ U o U' => ∃ v L, o = .returned v ∧ Q6_59 Z a1 q2 a4 a6 a14 q17 q18 kc19 h0 n0 v U'.heap L ∧ FrameEnd U o U' L ({ frames := 1, cells := 0, slots := 0, locals := 14 } : Room).cells ({ frames := 1, cells := 0, slots := 0, locals := 14 } : Room).slots) := by
  refine MetFree.of_bodySF (plainFor_of_name pn_com_example_srok_srok_engine_BookSide) hisR ?_
  intro p e s m args below meth c s₁ Bd hml0 hP hK
  obtain ⟨rfl, hZ, hh⟩ := hP
  have hx := Bd.exec
  have hby := Bd.bytes
  have hml : c.maxLocals = 11 := hml0
  have hown : s.vm.findClass zs2 = some m.cls := findClass_of_methodNamed Bd.named
  have hnm := (name_of_methodNamed Bd.named Bd.method).1
  have X0 : Stand p l e ({ frames := 1, cells := 0, slots := 0, locals := 14 } : Room) s m #[(.ref a1), (.long q2), .null] below meth c s₁ [] 0 0 := Stand.of_body Bd
  have e0 : s₁.heap = h0 := by rw [← hh, Bd.state]; rfl
  have N0 := Fr.nil n0
  refine own_pre (g' := mkF m 0 (lc11 a1 q2) []) (ef_5 m a1 q2) ?_
  obtain ⟨_, T3, L3, X3, hQ3, st3⟩ := ocallP X0 hx hZ zm3 hown (ww hw 43 rfl) (ww hw 44 rfl) (own_selP (mvT hZ (ww hw 10 rfl)) (mvP hZ (ww hw 45 rfl)) (mvT hZ (ww hw 44 rfl)) (by decide)) (ww hw 45 rfl) (by decide) (ww hw 46 rfl) (ww hw 11 rfl) e0 F9 (rm7_48 l Z a0 hw [] a1 q2 a4 a6 h0 n0 Z0 F5 F7 ha8) (st := [(.long q2), (.ref a1)]) rfl 0 rfl (by decide) (pc := 2) (Ls := (lc11 a1 q2)) hml rfl (lenOf pd_0 rfl) d6_2 hby
  obtain ⟨rfl, N3q, e3⟩ := hQ3
  have N10 := Fr.app N0 N3q
  refine own_go (U' := T3.setTop (mkF m 7 (lc13 a1 q2 (q2 ^^^ (-1 : Int64))) [])) (fun t k => oaloadN X0 hx hby d6_0 rfl rfl (olloadN X0 hx hby d6_1 rfl (st3 _ (olstore X3 hx hby d6_5 (lc13 a1 q2 (q2 ^^^ (-1 : Int64))) rfl k)))) ?_
  obtain ⟨z11, hz11⟩ : ∃ z, z = (q2 ^^^ (-1 : Int64)) := ⟨_, rfl⟩
  rw [← hz11]
  obtain ⟨T13, X13, e13, st13⟩ := getF X3 hx hZ hown (host := "") (Or.inl (ww hw 32 rfl)) Via.refl e3 F12 (g := (mkF m 8 (lc13 a1 q2 z11) [(.ref a1)])) rfl rfl (hb hby d6_8)
  refine own_go (U' := T13.setTop (mkF m 21 (lc15 a1 q2 z11 2 1) [(.int 1)])) (fun t k => oaloadN X3 hx hby d6_7 rfl rfl (st13 _ (oistore X13 hx hby d6_11 (lc14 a1 q2 z11 2) rfl (oiconst X13 hx hby d6_13 (oistore X13 hx hby d6_14 (lc15 a1 q2 z11 2 1) rfl (oiload X13 hx hby d6_16 rfl (oiload X13 hx hby d6_18 rfl (oisub X13 hx hby d6_20 k)))))))) ?_
  obtain ⟨T16, X16, e16, st16⟩ := getF X13 hx hZ hown (host := "") (Or.inl (ww hw 23 rfl)) Via.refl e13 F15 (g := (mkF m 25 (lc15 a1 q2 z11 2 1) [(.ref a1)])) rfl rfl (hb hby d6_25)
  obtain ⟨cl21, Ar21, q21, S21, N21, H21, G21⟩ := id F20
  have hin22 : ¬ ((1 : Int32) < 0 ∨ cl21.slots.size ≤ ((1 : Int32)).toNatClampNeg) := inb_of S21 ⟨by decide, by decide⟩
  have hat22 : cl21.slots[((1 : Int32)).toNatClampNeg]? = some (.long q18) := Has.at H21 hin22 rfl
  refine own_go (U' := T16.setTop (mkF m 37 (lc15 a1 q2 z11 2 1) [(.int (lcmpW q18 z11))])) (fun t k => oifN X13 hx hby d6_21 (by decide) (oaloadN X13 hx hby d6_24 rfl rfl (st16 _ (oiload X16 hx hby d6_28 rfl (oiload X16 hx hby d6_30 rfl (oisub X16 hx hby d6_32 (X16.laload hx (j := (1 : Int32)) (v := (.long q18)) (by rw [e16]; exact Ar21.1) (State.isArrayOf_alike hZ.alike Ar21.2.1) Ar21.2.2 hin22 hat22 (g := (mkF m 33 (lc15 a1 q2 z11 2 1) [(.int 1), (.ref a14)])) rfl rfl (hb hby d6_33) _ (olload X16 hx hby d6_34 rfl (olcmp X16 hx hby d6_36 k))))))))) ?_
  have hs24 : ¬ (q18 < z11) := by rw [hz11]; exact hc23
  refine own_go (U' := T16.setTop (mkF m 16 (lc15 a1 q2 z11 1 2) [])) (fun t k => oifN X16 hx hby d6_37 (own_ll_lt_f hs24) (oiload X16 hx hby d6_40 rfl (oiload X16 hx hby d6_42 rfl (oisub X16 hx hby d6_44 (oistore X16 hx hby d6_45 (lc15 a1 q2 z11 1 1) rfl (oiload X16 hx hby d6_47 rfl (oiconst X16 hx hby d6_49 (oimul X16 hx hby d6_50 (oistore X16 hx hby d6_51 (lc15 a1 q2 z11 1 2) rfl (ogoto (pc := 53) X16 hx hby d6_53 16 (by decide) k)))))))))) ?_
  refine own_go (U' := T16.setTop (mkF m 21 (lc15 a1 q2 z11 1 2) [(.int ((1 : Int32) - (2 : Int32)))])) (fun t k => oiload X16 hx hby d6_16 rfl (oiload X16 hx hby d6_18 rfl (oisub X16 hx hby d6_20 k))) ?_
  rw [show ((1 : Int32) - (2 : Int32)) = (-1 : Int32) from by decide]
  refine own_go (U' := T16.setTop (mkF m 62 (lc15 a1 q2 z11 1 2) [(.int ((1 : Int32) - (2 : Int32))), (.int 0)])) (fun t k => oifY (pc := 21) X16 hx hby d6_21 56 (by decide) (by decide) (oiconst X16 hx hby d6_56 (oiload X16 hx hby d6_57 rfl (oiload X16 hx hby d6_59 rfl (oisub X16 hx hby d6_61 k))))) ?_
  rw [show ((1 : Int32) - (2 : Int32)) = (-1 : Int32) from by decide]
  refine own_go (U' := T16.setTop (mkF m 64 (lc15 a1 q2 z11 1 2) [(.int ((-1 : Int32) + (1 : Int32))), (.int 0)])) (fun t k => oiconst X16 hx hby d6_62 (oiadd X16 hx hby d6_63 k)) ?_
  rw [show ((-1 : Int32) + (1 : Int32)) = (0 : Int32) from by decide]
  obtain ⟨_, T25, L25, X25, hQ25, st25⟩ := ocallS X16 hx hZ zm4 hown (ww hw 48 rfl) (ww hw 49 rfl) (by decide) (ww hw 51 rfl) (ww hw 50 rfl) e16 (rm8_7 l Z a0 hw []  h0 n0 Z0 ) (st := [(.int 0), (.int 0)]) rfl 0 rfl (by decide) (pc := 64) (Ls := (lc15 a1 q2 z11 1 2)) hml rfl (lenOf pd_3 rfl) d6_64 hby
  obtain ⟨rfl, N25q, e25⟩ := hQ25
  have N26 := Fr.app N10 N25q
  refine own_go (U' := T25.setTop (mkF m 79 (lc18 a1 q2 z11 1 2 0 1) [(.int 1), (.int 1)])) (fun t k => st25 _ (oistore X25 hx hby d6_67 (lc17 a1 q2 z11 1 2 0) rfl (oiload X25 hx hby d6_69 rfl (oiload X25 hx hby d6_71 rfl (oisub X25 hx hby d6_73 (oistore X25 hx hby d6_74 (lc18 a1 q2 z11 1 2 0 1) rfl (oiload X25 hx hby d6_76 rfl (oiconst X25 hx hby d6_78 k)))))))) ?_
  refine own_go (U' := T25.setTop (mkF m 132 (lc18 a1 q2 z11 1 2 0 1) [(.int 1), (.int 0)])) (fun t k => oicY (pc := 79) X25 hx hby d6_79 128 (by decide) (by decide) (oiload X25 hx hby d6_128 rfl (oiload X25 hx hby d6_130 rfl k))) ?_
  obtain ⟨T27, X27, e27, st27⟩ := getF X25 hx hZ hown (host := "") (Or.inl (ww hw 23 rfl)) Via.refl e25 F15 (g := (mkF m 136 (lc18 a1 q2 z11 1 2 0 1) [(.ref a1)])) rfl rfl (hb hby d6_136)
  obtain ⟨cl28, Ar28, q28, S28, N28, H28, G28⟩ := id F20
  have hin29 : ¬ ((0 : Int32) < 0 ∨ cl28.slots.size ≤ ((0 : Int32)).toNatClampNeg) := inb_of S28 ⟨by decide, by decide⟩
  have hat29 : cl28.slots[((0 : Int32)).toNatClampNeg]? = some (.long q17) := Has.at H28 hin29 rfl
  refine own_go (U' := T27.setTop (mkF m 145 (lc18 a1 q2 z11 1 2 0 1) [(.int (lcmpW q17 z11))])) (fun t k => oicN X25 hx hby d6_132 (by decide) (oaloadN X25 hx hby d6_135 rfl rfl (st27 _ (oiload X27 hx hby d6_139 rfl (X27.laload hx (j := (0 : Int32)) (v := (.long q17)) (by rw [e27]; exact Ar28.1) (State.isArrayOf_alike hZ.alike Ar28.2.1) Ar28.2.2 hin29 hat29 (g := (mkF m 141 (lc18 a1 q2 z11 1 2 0 1) [(.int 0), (.ref a14)])) rfl rfl (hb hby d6_141) _ (olload X27 hx hby d6_142 rfl (olcmp X27 hx hby d6_144 k))))))) ?_
  have hs31 : q17 < z11 := by rw [hz11]; exact hc30
  refine own_go (U' := T27.setTop (mkF m 157 (lc18 a1 q2 z11 1 2 1 1) [(.int (lcmpW z11 (-9223372036854775808 : Int64)))])) (fun t k => oifN X27 hx hby d6_145 (own_ll_ge_f hs31) (oiinc X27 hx hby d6_148 (lc18 a1 q2 z11 1 2 1 1) rfl rfl (olload X27 hx hby d6_151 rfl (X27.ldc2Long hx hown (mvT hZ (ww hw 52 rfl)) (g := (mkF m 153 (lc18 a1 q2 z11 1 2 1 1) [(.long z11)])) rfl (hb hby d6_153) _ (olcmp X27 hx hby d6_156 k))))) ?_
  have hs33 : ¬ (z11 = (-9223372036854775808 : Int64)) := by rw [hz11]; exact hc32
  refine own_go (U' := T27.setTop (mkF m 166 (lc18 a1 q2 z11 1 2 1 1) [(.int (lcmpW z11 (9223372036854775807 : Int64)))])) (fun t k => oifN X27 hx hby d6_157 (own_ll_eq_f hs33) (olload X27 hx hby d6_160 rfl (X27.ldc2Long hx hown (mvT hZ (ww hw 53 rfl)) (g := (mkF m 162 (lc18 a1 q2 z11 1 2 1 1) [(.long z11)])) rfl (hb hby d6_162) _ (olcmp X27 hx hby d6_165 k)))) ?_
  have hs35 : ¬ (z11 = (9223372036854775807 : Int64)) := by rw [hz11]; exact hc34
  refine own_go (U' := T27.setTop (mkF m 178 (lc18 a1 q2 z11 1 2 1 1) [(.int 1)])) (fun t k => oifN X27 hx hby d6_166 (own_ll_eq_f hs35) (oiconst X27 hx hby d6_169 (ogoto (pc := 170) X27 hx hby d6_170 174 (by decide) (oistore X27 hx hby d6_174 (lc18 a1 q2 z11 1 2 1 1) rfl (oiload X27 hx hby d6_176 rfl k))))) ?_
  obtain ⟨T36, X36, e36, st36⟩ := getF X27 hx hZ hown (host := "") (Or.inl (ww hw 32 rfl)) Via.refl e27 F12 (g := (mkF m 230 (lc18 a1 q2 z11 1 2 1 1) [(.ref a1), (.int 1)])) rfl rfl (hb hby d6_230)
  refine own_go (U' := T36.setTop (mkF m 233 (lc18 a1 q2 z11 1 2 1 1) [(.int 2), (.int 1)])) (fun t k => oifY (pc := 178) X27 hx hby d6_178 227 (by decide) (by decide) (oiload X27 hx hby d6_227 rfl (oaloadN X27 hx hby d6_229 rfl rfl (st36 _ k)))) ?_
  obtain ⟨T37, X37, e37, st37⟩ := getF X36 hx hZ hown (host := "") (Or.inl (ww hw 23 rfl)) Via.refl e36 F15 (g := (mkF m 237 (lc18 a1 q2 z11 1 2 1 1) [(.ref a1)])) rfl rfl (hb hby d6_237)
  obtain ⟨cl38, Ar38, q38, S38, N38, H38, G38⟩ := id F20
  have hin39 : ¬ ((1 : Int32) < 0 ∨ cl38.slots.size ≤ ((1 : Int32)).toNatClampNeg) := inb_of S38 ⟨by decide, by decide⟩
  have hat39 : cl38.slots[((1 : Int32)).toNatClampNeg]? = some (.long q18) := Has.at H38 hin39 rfl
  refine own_go (U' := T37.setTop (mkF m 246 (lc18 a1 q2 z11 1 2 1 1) [(.int (lcmpW q18 z11))])) (fun t k => oicN X36 hx hby d6_233 (by decide) (oaloadN X36 hx hby d6_236 rfl rfl (st37 _ (oiload X37 hx hby d6_240 rfl (X37.laload hx (j := (1 : Int32)) (v := (.long q18)) (by rw [e37]; exact Ar38.1) (State.isArrayOf_alike hZ.alike Ar38.2.1) Ar38.2.2 hin39 hat39 (g := (mkF m 242 (lc18 a1 q2 z11 1 2 1 1) [(.int 1), (.ref a14)])) rfl rfl (hb hby d6_242) _ (olload X37 hx hby d6_243 rfl (olcmp X37 hx hby d6_245 k))))))) ?_
  have hs41 : q18 = z11 := by rw [hz11]; exact hc40
  refine own_go (U' := T37.setTop (mkF m 251 (lc18 a1 q2 z11 1 2 1 1) [(.int 1)])) (fun t k => oifN X37 hx hby d6_246 (own_ll_ne_f hs41) (oiload X37 hx hby d6_249 rfl k)) ?_
  refine own_go (U' := T37.setTop (mkF m 280 (lc19 a1 q2 z11 1 2 1 1 1) [(.int 1)])) (fun t k => oifY (pc := 251) X37 hx hby d6_251 271 (by decide) (by decide) (oiconst X37 hx hby d6_271 (ogoto (pc := 272) X37 hx hby d6_272 276 (by decide) (oistore X37 hx hby d6_276 (lc19 a1 q2 z11 1 2 1 1 1) rfl (oiload X37 hx hby d6_278 rfl k))))) ?_
  refine own_go (U' := T37.setTop (mkF m 292 (lc19 a1 q2 z11 1 2 1 1 1) [(.int 1)])) (fun t k => oifN X37 hx hby d6_280 (by decide) (oiload X37 hx hby d6_283 rfl (ogoto (pc := 285) X37 hx hby d6_285 292 (by decide) k))) ?_
  obtain ⟨fs, hr, hrun, hended, hW, hsame⟩ := X37.leave (v := some (.int 1)) (fun h => by rw [Bd.returns] at h; cases h)
  refine own_out ⟨_, _, ?_, hrun, hended, _, _, rfl, ?_, ⟨_, rfl⟩, hW, hsame.mono (by decide) (by decide)⟩
  · exact retI X37 hx Bd.returns (hb hby d6_292) hr
  · show Q6_59 Z a1 q2 a4 a6 a14 q17 q18 kc19 h0 n0 _ T37.heap _
    rw [e37]
    exact ⟨rfl, N26, rfl⟩
def Qmg6_60 (Z : State) (a1 : Addr) (q2 : Int64) (a3 : Addr) (a5 : Addr) (a10 : Addr) (q12 : Int64) (q13 : Int64) (kc14 : ClassId) (h0 : Heap) (n0 : Nat) (v : Option Value) (h : Heap) (L : List Loc) : Prop := v = some (.int 1) ∧ Fr n0 L ∧ h = h0
theorem mg6_60 (l : Launch) (Z : State) (a0 : Array Value) (hw : ∀ d ∈ tables_1, d.before a0 Z = true) (ws : List Jvm.Cond) (a1 : Addr) (q2 : Int64) (a3 : Addr) (a5 : Addr) (a10 : Addr) (q12 : Int64) (q13 : Int64) (kc14 : ClassId) (h0 : Heap) (n0 : Nat) (Z0 : n0 ≤ h0.size) (F4 : Fld Z h0 a1 zs2 "side" zs4 (.ref a3)) (F6 : Sta Z h0 zs6 "BUY" zs4 (.ref a5)) (ha7 : a3 ≠ a5) (F8 : Exa Z h0 a1 zs2) (F9 : Fld Z h0 a1 zs2 "count" "I" (.int 2)) (F11 : Fld Z h0 a1 zs2 "ranks" "[J" (.ref a10)) (F15 : Arv Z h0 a10 kc14 .long (16 : Int32) [(.long q12), (.long q13)] (.long (0 : Int64))) (hc16 : ¬ (q13 < (q2 ^^^ (-1 : Int64)))) (hc17 : q12 < (q2 ^^^ (-1 : Int64))) (hc18 : ¬ ((q2 ^^^ (-1 : Int64)) = (-9223372036854775808 : Int64))) (hc19 : ¬ ((q2 ^^^ (-1 : Int64)) = (9223372036854775807 : Int64))) (hc20 : q13 = (q2 ^^^ (-1 : Int64))) :
    MetFree l zm5 (head1 (Jvm.Cond.code zm5 prog_2_method_8_code 11 (some .int) :: ws) ({ frames := 1, cells := 0, slots := 0, locals := 14 } : Room)) (fun a U => a = #[(.ref a1), (.long q2), .null] ∧ Z.Warmed39 U.vm ∧ U.heap = h0) (fun _ _ _ _ _ => True) (fun _ U o U' => ∃ v L, o = .returned v ∧ Qmg6_60 Z a1 q2 a3 a5 a10 q12 q13 kc14 h0 n0 v U'.heap L ∧ FrameEnd U o U' L ({ frames := 1, cells := 0, slots := 0, locals := 14 } : Room).cells ({ frames := 1, cells := 0, slots := 0, locals := 14 } : Room).slots) := by
  exact rm6_59 l Z a0 hw ws a1 q2 a3 a5 a10 q12 q13 kc14 h0 n0 Z0 F4 F6 ha7 F8 F9 F11 F15 hc16 hc17 hc18 hc19 hc20
def Q5_61 (Z : State) (a1 : Addr) (q2 : Int64) (a4 : Addr) (a6 : Addr) (a11 : Addr) (q13 : Int64) (q14 : Int64) (kc15 : ClassId) (a23 : Addr) (a26 : Addr) (a27 : Addr) (kc28 : ClassId) (h0 : Heap) (n0 : Nat) (v : Option Value) (h : Heap) (L : List Loc) : Prop := v = some (.ref a27) ∧ Fr n0 L ∧ Keep h0 h [a1] ∧ Fld Z h a1 zs2 "side" zs4 (.ref a4) ∧ Fld Z h a1 zs2 "count" "I" (.int 2) ∧ Fld Z h a1 zs2 "ranks" "[J" (.ref a11) ∧ Fld Z h a1 zs2 "levels" zs3 (.ref a23) ∧ Fld Z h a1 zs2 "emptyLevels" "I" (.int (-1))
set_option maxRecDepth 65536 in
set_option maxHeartbeats 40000000 in
theorem rm5_61 (l : Launch) (Z : State) (a0 : Array Value) (hw : ∀ d ∈ tables_1, d.before a0 Z = true) (ws : List Jvm.Cond) (a1 : Addr) (q2 : Int64) (a4 : Addr) (a6 : Addr) (a11 : Addr) (q13 : Int64) (q14 : Int64) (kc15 : ClassId) (a23 : Addr) (a26 : Addr) (a27 : Addr) (kc28 : ClassId) (h0 : Heap) (n0 : Nat) (Z0 : n0 ≤ h0.size) (F5 : Fld Z h0 a1 zs2 "side" zs4 (.ref a4)) (F7 : Sta Z h0 zs6 "BUY" zs4 (.ref a6)) (ha8 : a4 ≠ a6) (F9 : Exa Z h0 a1 zs2) (F10 : Fld Z h0 a1 zs2 "count" "I" (.int 2)) (F12 : Fld Z h0 a1 zs2 "ranks" "[J" (.ref a11)) (F16 : Arv Z h0 a11 kc15 .long (16 : Int32) [(.long q13), (.long q14)] (.long (0 : Int64))) (hc17 : ¬ (q14 < (q2 ^^^ (-1 : Int64)))) (hc18 : q13 < (q2 ^^^ (-1 : Int64))) (hc19 : ¬ ((q2 ^^^ (-1 : Int64)) = (-9223372036854775808 : Int64))) (hc20 : ¬ ((q2 ^^^ (-1 : Int64)) = (9223372036854775807 : Int64))) (hc21 : q14 = (q2 ^^^ (-1 : Int64))) (F24 : Fld Z h0 a1 zs2 "levels" zs3 (.ref a23)) (F29 : Arv Z h0 a23 kc28 (.object zs1) (16 : Int32) [(.ref a26), (.ref a27)] .null) (F33 : Exa Z h0 a27 zs1) (F34 : Fld Z h0 a27 zs1 "first" zs11 .null) (F36 : Fld Z h0 a1 zs2 "emptyLevels" "I" (.int 0)) (g39 : n0 ≤ a1) (ne44 : a23 ≠ a1) :
    MetFree l zm7 (head1 (Jvm.Cond.code zm7 prog_2_method_5_code 7 (some (.object zs1)) :: ws) ({ frames := 2, cells := 0, slots := 0, locals := 36 } : Room)) (fun a U => a = #[(.ref a1), (.long q2), .null] ∧ Z.Warmed39 U.vm ∧ U.heap = h0) (fun _ _ _ _ _ => True) (fun _ U o U' => ∃ v L, o = .returned v ∧ Q5_61 Z a1 q2 a4 a6 a11 q13 q14 kc15 a23 a26 a27 kc28 h0 n0 v U'.heap L ∧ FrameEnd U o U' L ({ frames := 2, cells := 0, slots := 0, locals := 36 } : Room).cells ({ frames := 2, cells := 0, slots := 0, locals := 36 } : Room).slots) := by
  refine MetFree.of_bodySF (plainFor_of_name pn_com_example_srok_srok_engine_BookSide) hisR ?_
  intro p e s m args below meth c s₁ Bd hml0 hP hK
  obtain ⟨rfl, hZ, hh⟩ := hP
  have hx := Bd.exec
  have hby := Bd.bytes
  have hml : c.maxLocals = 7 := hml0
  have hown : s.vm.findClass zs2 = some m.cls := findClass_of_methodNamed Bd.named
  have hnm := (name_of_methodNamed Bd.named Bd.method).1
  have X0 : Stand p l e ({ frames := 2, cells := 0, slots := 0, locals := 36 } : Room) s m #[(.ref a1), (.long q2), .null] below meth c s₁ [] 0 0 := Stand.of_body Bd
  have e0 : s₁.heap = h0 := by rw [← hh, Bd.state]; rfl
  have N0 := Fr.nil n0
  refine own_pre (g' := mkF m 0 (lc10 a1 q2) []) (ef_7 m a1 q2) ?_
  obtain ⟨_, T3, L3, X3, hQ3, st3⟩ := ocallP X0 hx hZ zm5 hown (ww hw 39 rfl) (ww hw 40 rfl) (own_selP (mvT hZ (ww hw 10 rfl)) (mvP hZ (ww hw 41 rfl)) (mvT hZ (ww hw 40 rfl)) (by decide)) (ww hw 41 rfl) (by decide) (ww hw 42 rfl) (ww hw 11 rfl) e0 F9 (mg6_60 l Z a0 hw [] a1 q2 a4 a6 a11 q13 q14 kc15 h0 n0 Z0 F5 F7 ha8 F9 F10 F12 F16 hc17 hc18 hc19 hc20 hc21) (st := [.null, (.long q2), (.ref a1)]) rfl 0 rfl (by decide) (pc := 3) (Ls := (lc10 a1 q2)) hml rfl (lenOf pd_4 rfl) d5_3 hby
  obtain ⟨rfl, N3q, e3⟩ := hQ3
  have N22 := Fr.app N0 N3q
  refine own_go (U' := T3.setTop (mkF m 10 (lc20 a1 q2 1) [(.int 1)])) (fun t k => oaloadN X0 hx hby d5_0 rfl rfl (olloadN X0 hx hby d5_1 rfl (oaloadN X0 hx hby d5_2 rfl rfl (st3 _ (oistore X3 hx hby d5_6 (lc20 a1 q2 1) rfl (oiload X3 hx hby d5_8 rfl k)))))) ?_
  obtain ⟨T25, X25, e25, st25⟩ := getF X3 hx hZ hown (host := "") (Or.inl (ww hw 20 rfl)) Via.refl e3 F24 (g := (mkF m 14 (lc20 a1 q2 1) [(.ref a1)])) rfl rfl (hb hby d5_14)
  obtain ⟨cl30, Ar30, q30, S30, N30, H30, G30⟩ := id F29
  have hin31 : ¬ ((1 : Int32) < 0 ∨ cl30.slots.size ≤ ((1 : Int32)).toNatClampNeg) := inb_of S30 ⟨by decide, by decide⟩
  have hat31 : cl30.slots[((1 : Int32)).toNatClampNeg]? = some (.ref a27) := Has.at H30 hin31 rfl
  obtain ⟨_, T32, L32, X32, hQ32, st32⟩ := ocallV X25 hx hZ zm9 zm9 hown (ww hw 72 rfl) (ww hw 73 rfl) (notFace_of_selects (args := #[]) (mvT hZ (ww hw 75 rfl))) (ww hw 75 rfl) (ww hw 74 rfl) (by decide) (ww hw 76 rfl) (ww hw 59 rfl) e25 F33 (rm11_27 l Z a0 hw [] a27 h0 n0 Z0 F34) (st := [(.ref a27)]) rfl 0 rfl (by decide) (pc := 20) (Ls := (lc20 a1 q2 1)) hml rfl (lenOf pd_8 rfl) d5_20 hby
  obtain ⟨rfl, N32q, e32⟩ := hQ32
  have N35 := Fr.app N22 N32q
  refine own_go (U' := T32.setTop (mkF m 23 (lc20 a1 q2 1) [(.int 1)])) (fun t k => oifN X3 hx hby d5_10 (by decide) (oaloadN X3 hx hby d5_13 rfl rfl (st25 _ (oiload X25 hx hby d5_17 rfl (X25.aaload hx (j := (1 : Int32)) (v := (.ref a27)) (by rw [e25]; exact Ar30.1) (State.isArrayOf_alike hZ.alike Ar30.2.1) rfl Ar30.2.2 hin31 hat31 (g := (mkF m 19 (lc20 a1 q2 1) [(.int 1), (.ref a23)])) rfl rfl (hb hby d5_19) _ (st32 _ k)))))) ?_
  obtain ⟨T37, X37, e37, st37⟩ := getF X32 hx hZ hown (host := "") (Or.inl (ww hw 79 rfl)) Via.refl e32 F36 (g := (mkF m 28 (lc20 a1 q2 1) [(.ref a1), (.ref a1)])) rfl rfl (hb hby d5_28)
  refine own_go (U' := T37.setTop (mkF m 33 (lc20 a1 q2 1) [(.int ((0 : Int32) - (1 : Int32))), (.ref a1)])) (fun t k => oifN X32 hx hby d5_23 (by decide) (oaloadN X32 hx hby d5_26 rfl rfl (odup X32 hx hby d5_27 rfl (st37 _ (oiconst X37 hx hby d5_31 (oisub X37 hx hby d5_32 k)))))) ?_
  rw [show ((0 : Int32) - (1 : Int32)) = (-1 : Int32) from by decide]
  obtain ⟨T38, h38, X38, e38, W38, st38⟩ := putF X37 hx hZ hown (host := "") (Or.inl (ww hw 79 rfl)) Via.refl e37 F36 F9 (Or.inl (ww hw 80 rfl)) (ww hw 10 rfl) (ty := .int) (by decide) rfl rfl (g := (mkF m 33 (lc20 a1 q2 1) [(.int (-1)), (.ref a1)])) rfl rfl (hb hby d5_33)
  have N40 := Fr.snoc X38 N35 g39
  have f41 : Fld Z h38 a1 zs2 "emptyLevels" "I" (.int (-1)) := Fld.same W38 F36
  have f42 : Fld Z h38 a1 zs2 "levels" zs3 (.ref a23) := (Fld.other W38 F24 (Or.inr (slot_ne (Or.inl (ww hw 21 rfl)) (Or.inl (ww hw 80 rfl)) (by decide) (t := (.array (.object zs1))) (t' := .int) (by decide) (by decide))))
  obtain ⟨T43, X43, e43, st43⟩ := getF X38 hx hZ hown (host := "") (Or.inl (ww hw 20 rfl)) Via.refl e38 f42 (g := (mkF m 37 (lc20 a1 q2 1) [(.ref a1)])) rfl rfl (hb hby d5_37)
  have f45 : Arv Z h38 a23 kc28 (.object zs1) (16 : Int32) [(.ref a26), (.ref a27)] .null := (F29.other W38 ne44)
  obtain ⟨cl46, Ar46, q46, S46, N46, H46, G46⟩ := id f45
  have hin47 : ¬ ((1 : Int32) < 0 ∨ cl46.slots.size ≤ ((1 : Int32)).toNatClampNeg) := inb_of S46 ⟨by decide, by decide⟩
  have hat47 : cl46.slots[((1 : Int32)).toNatClampNeg]? = some (.ref a27) := Has.at H46 hin47 rfl
  refine own_go (U' := T43.setTop (mkF m 43 (lc20 a1 q2 1) [(.ref a27)])) (fun t k => st38 _ (oaloadN X38 hx hby d5_36 rfl rfl (st43 _ (oiload X43 hx hby d5_40 rfl (X43.aaload hx (j := (1 : Int32)) (v := (.ref a27)) (by rw [e43]; exact Ar46.1) (State.isArrayOf_alike hZ.alike Ar46.2.1) rfl Ar46.2.2 hin47 hat47 (g := (mkF m 42 (lc20 a1 q2 1) [(.int 1), (.ref a23)])) rfl rfl (hb hby d5_42) _ k))))) ?_
  have f48 : Fld Z h38 a1 zs2 "side" zs4 (.ref a4) := (Fld.other W38 F5 (Or.inr (slot_ne (Or.inr (ww hw 26 rfl)) (Or.inl (ww hw 80 rfl)) (by decide) (t := (.object zs6)) (t' := .int) (by decide) (by decide))))
  have f49 : Fld Z h38 a1 zs2 "count" "I" (.int 2) := (Fld.other W38 F10 (Or.inr (slot_ne (Or.inl (ww hw 33 rfl)) (Or.inl (ww hw 80 rfl)) (by decide) (t := .int) (t' := .int) (by decide) (by decide))))
  have f50 : Fld Z h38 a1 zs2 "ranks" "[J" (.ref a11) := (Fld.other W38 F12 (Or.inr (slot_ne (Or.inl (ww hw 24 rfl)) (Or.inl (ww hw 80 rfl)) (by decide) (t := (.array .long)) (t' := .int) (by decide) (by decide))))
  obtain ⟨fs, hr, hrun, hended, hW, hsame⟩ := X43.leave (v := some (.ref a27)) (fun h => by rw [Bd.returns] at h; cases h)
  refine own_out ⟨_, _, ?_, hrun, hended, _, _, rfl, ?_, ⟨_, rfl⟩, hW, hsame.mono (by decide) (by decide)⟩
  · exact retOut X43 hx Bd.returns rfl (Or.inr (Or.inr (Or.inr (Or.inr ⟨rfl, rfl, rfl⟩)))) (hb hby d5_43) hr
  · show Q5_61 Z a1 q2 a4 a6 a11 q13 q14 kc15 a23 a26 a27 kc28 h0 n0 _ T43.heap _
    rw [e43]
    exact ⟨rfl, N40, ((Keep.refl h0 [a1]).wr W38 (Or.inl (List.mem_of_getElem? (i := 0) rfl))), f48, f49, f50, f42, f41⟩
def Q10_62 (Z : State) (q1 : Int64) (q2 : Int64) (h0 : Heap) (n0 : Nat) (v : Option Value) (h : Heap) (L : List Loc) : Prop := v = some (.int 0) ∧ Fr n0 L ∧ h = h0
set_option maxRecDepth 65536 in
set_option maxHeartbeats 40000000 in
theorem rm10_62 (l : Launch) (Z : State) (a0 : Array Value) (hw : ∀ d ∈ tables_1, d.before a0 Z = true) (ws : List Jvm.Cond) (q1 : Int64) (q2 : Int64) (h0 : Heap) (n0 : Nat) (Z0 : n0 ≤ h0.size) (hc3 : ¬ (q1 < q2)) :
    MetFree l zm8 (head1 (Jvm.Cond.code zm8 method_3_code 5 (some .boolean) :: ws) ({ frames := 0, cells := 0, slots := 0, locals := 0 } : Room)) (fun a U => a = #[(.int 0), (.long q1), (.long q2)] ∧ Z.Warmed39 U.vm ∧ U.heap = h0) (fun _ _ _ _ _ => True) (fun _ U o U' => ∃ v L, o = .returned v ∧ Q10_62 Z q1 q2 h0 n0 v U'.heap L ∧ FrameEnd U o U' L ({ frames := 0, cells := 0, slots := 0, locals := 0 } : Room).cells ({ frames := 0, cells := 0, slots := 0, locals := 0 } : Room).slots) := by
  refine MetFree.of_bodySF (plainFor_of_name pn_com_example_srok_srok_engine_BookSideBestPinLaw) hisR ?_
  intro p e s m args below meth c s₁ Bd hml0 hP hK
  obtain ⟨rfl, hZ, hh⟩ := hP
  have hx := Bd.exec
  have hby := Bd.bytes
  have hml : c.maxLocals = 5 := hml0
  have hown : s.vm.findClass zs0 = some m.cls := findClass_of_methodNamed Bd.named
  have hnm := (name_of_methodNamed Bd.named Bd.method).1
  have X0 : Stand p l e ({ frames := 0, cells := 0, slots := 0, locals := 0 } : Room) s m #[(.int 0), (.long q1), (.long q2)] below meth c s₁ [] 0 0 := Stand.of_body Bd
  have e0 : s₁.heap = h0 := by rw [← hh, Bd.state]; rfl
  have N0 := Fr.nil n0
  refine own_pre (g' := mkF m 0 (lc26 0 q1 q2) []) (ef_8 m (0 : Int32) q1 q2) ?_
  refine own_go (U' := s₁.setTop (mkF m 1 (lc26 0 q1 q2) [(.int 0)])) (fun t k => oiloadN X0 hx hby d10_0 rfl k) ?_
  refine own_go (U' := s₁.setTop (mkF m 21 (lc26 0 q1 q2) [(.int (lcmpW q1 q2))])) (fun t k => oifY (pc := 1) X0 hx hby d10_1 18 (by decide) (by decide) (olloadN X0 hx hby d10_18 rfl (olloadN X0 hx hby d10_19 rfl (olcmp X0 hx hby d10_20 k)))) ?_
  refine own_go (U' := s₁.setTop (mkF m 29 (lc26 0 q1 q2) [(.int 0)])) (fun t k => oifY (pc := 21) X0 hx hby d10_21 28 (own_ll_ge_t hc3) (by decide) (oiconst X0 hx hby d10_28 k)) ?_
  obtain ⟨fs, hr, hrun, hended, hW, hsame⟩ := X0.leave (v := some (.int 0)) (fun h => by rw [Bd.returns] at h; cases h)
  refine own_out ⟨_, _, ?_, hrun, hended, _, _, rfl, ?_, ⟨_, rfl⟩, hW, hsame.mono (by decide) (by decide)⟩
  · exact retN X0 hx (t := .boolean) Bd.returns (by simp) (hb hby d10_29) hr
  · show Q10_62 Z q1 q2 h0 n0 _ s₁.heap _
    rw [e0]
    exact ⟨rfl, N0, rfl⟩
def Q6_63 (Z : State) (a1 : Addr) (q2 : Int64) (a4 : Addr) (a6 : Addr) (a14 : Addr) (q17 : Int64) (q18 : Int64) (kc19 : ClassId) (h0 : Heap) (n0 : Nat) (v : Option Value) (h : Heap) (L : List Loc) : Prop := v = some (.int (-2)) ∧ Fr n0 L ∧ h = h0
set_option maxRecDepth 65536 in
set_option maxHeartbeats 40000000 in
theorem rm6_63 (l : Launch) (Z : State) (a0 : Array Value) (hw : ∀ d ∈ tables_1, d.before a0 Z = true) (ws : List Jvm.Cond) (a1 : Addr) (q2 : Int64) (a4 : Addr) (a6 : Addr) (a14 : Addr) (q17 : Int64) (q18 : Int64) (kc19 : ClassId) (h0 : Heap) (n0 : Nat) (Z0 : n0 ≤ h0.size) (F5 : Fld Z h0 a1 zs2 "side" zs4 (.ref a4)) (F7 : Sta Z h0 zs6 "BUY" zs4 (.ref a6)) (ha8 : a4 ≠ a6) (F9 : Exa Z h0 a1 zs2) (F12 : Fld Z h0 a1 zs2 "count" "I" (.int 2)) (F15 : Fld Z h0 a1 zs2 "ranks" "[J" (.ref a14)) (F20 : Arv Z h0 a14 kc19 .long (16 : Int32) [(.long q17), (.long q18)] (.long (0 : Int64))) (hc23 : ¬ (q18 < (q2 ^^^ (-1 : Int64)))) (hc30 : q17 < (q2 ^^^ (-1 : Int64))) (hc32 : ¬ ((q2 ^^^ (-1 : Int64)) = (-9223372036854775808 : Int64))) (hc34 : ¬ ((q2 ^^^ (-1 : Int64)) = (9223372036854775807 : Int64))) (hc40 : ¬ (q18 = (q2 ^^^ (-1 : Int64)))) :
    MetFree l zm5 (head1 (Jvm.Cond.code zm5 prog_2_method_8_code 11 (some .int) :: ws) ({ frames := 1, cells := 0, slots := 0, locals := 14 } : Room)) (fun a U => a = #[(.ref a1), (.long q2), .null] ∧ Z.Warmed39 U.vm ∧ U.heap = h0) (fun _ _ _ _ _ => True) (fun _ U o U' => ∃ v L, o = .returned v ∧ Q6_63 Z a1 q2 a4 a6 a14 q17 q18 kc19 h0 n0 v U'.heap L ∧ FrameEnd U o U' L ({ frames := 1, cells := 0, slots := 0, locals := 14 } : Room).cells ({ frames := 1, cells := 0, slots := 0, locals := 14 } : Room).slots) := by
  refine MetFree.of_bodySF (plainFor_of_name pn_com_example_srok_srok_engine_BookSide) hisR ?_
  intro p e s m args below meth c s₁ Bd hml0 hP hK
  obtain ⟨rfl, hZ, hh⟩ := hP
  have hx := Bd.exec
  have hby := Bd.bytes
  have hml : c.maxLocals = 11 := hml0
  have hown : s.vm.findClass zs2 = some m.cls := findClass_of_methodNamed Bd.named
  have hnm := (name_of_methodNamed Bd.named Bd.method).1
  have X0 : Stand p l e ({ frames := 1, cells := 0, slots := 0, locals := 14 } : Room) s m #[(.ref a1), (.long q2), .null] below meth c s₁ [] 0 0 := Stand.of_body Bd
  have e0 : s₁.heap = h0 := by rw [← hh, Bd.state]; rfl
  have N0 := Fr.nil n0
  refine own_pre (g' := mkF m 0 (lc11 a1 q2) []) (ef_5 m a1 q2) ?_
  obtain ⟨_, T3, L3, X3, hQ3, st3⟩ := ocallP X0 hx hZ zm3 hown (ww hw 43 rfl) (ww hw 44 rfl) (own_selP (mvT hZ (ww hw 10 rfl)) (mvP hZ (ww hw 45 rfl)) (mvT hZ (ww hw 44 rfl)) (by decide)) (ww hw 45 rfl) (by decide) (ww hw 46 rfl) (ww hw 11 rfl) e0 F9 (rm7_48 l Z a0 hw [] a1 q2 a4 a6 h0 n0 Z0 F5 F7 ha8) (st := [(.long q2), (.ref a1)]) rfl 0 rfl (by decide) (pc := 2) (Ls := (lc11 a1 q2)) hml rfl (lenOf pd_0 rfl) d6_2 hby
  obtain ⟨rfl, N3q, e3⟩ := hQ3
  have N10 := Fr.app N0 N3q
  refine own_go (U' := T3.setTop (mkF m 7 (lc13 a1 q2 (q2 ^^^ (-1 : Int64))) [])) (fun t k => oaloadN X0 hx hby d6_0 rfl rfl (olloadN X0 hx hby d6_1 rfl (st3 _ (olstore X3 hx hby d6_5 (lc13 a1 q2 (q2 ^^^ (-1 : Int64))) rfl k)))) ?_
  obtain ⟨z11, hz11⟩ : ∃ z, z = (q2 ^^^ (-1 : Int64)) := ⟨_, rfl⟩
  rw [← hz11]
  obtain ⟨T13, X13, e13, st13⟩ := getF X3 hx hZ hown (host := "") (Or.inl (ww hw 32 rfl)) Via.refl e3 F12 (g := (mkF m 8 (lc13 a1 q2 z11) [(.ref a1)])) rfl rfl (hb hby d6_8)
  refine own_go (U' := T13.setTop (mkF m 21 (lc15 a1 q2 z11 2 1) [(.int 1)])) (fun t k => oaloadN X3 hx hby d6_7 rfl rfl (st13 _ (oistore X13 hx hby d6_11 (lc14 a1 q2 z11 2) rfl (oiconst X13 hx hby d6_13 (oistore X13 hx hby d6_14 (lc15 a1 q2 z11 2 1) rfl (oiload X13 hx hby d6_16 rfl (oiload X13 hx hby d6_18 rfl (oisub X13 hx hby d6_20 k)))))))) ?_
  obtain ⟨T16, X16, e16, st16⟩ := getF X13 hx hZ hown (host := "") (Or.inl (ww hw 23 rfl)) Via.refl e13 F15 (g := (mkF m 25 (lc15 a1 q2 z11 2 1) [(.ref a1)])) rfl rfl (hb hby d6_25)
  obtain ⟨cl21, Ar21, q21, S21, N21, H21, G21⟩ := id F20
  have hin22 : ¬ ((1 : Int32) < 0 ∨ cl21.slots.size ≤ ((1 : Int32)).toNatClampNeg) := inb_of S21 ⟨by decide, by decide⟩
  have hat22 : cl21.slots[((1 : Int32)).toNatClampNeg]? = some (.long q18) := Has.at H21 hin22 rfl
  refine own_go (U' := T16.setTop (mkF m 37 (lc15 a1 q2 z11 2 1) [(.int (lcmpW q18 z11))])) (fun t k => oifN X13 hx hby d6_21 (by decide) (oaloadN X13 hx hby d6_24 rfl rfl (st16 _ (oiload X16 hx hby d6_28 rfl (oiload X16 hx hby d6_30 rfl (oisub X16 hx hby d6_32 (X16.laload hx (j := (1 : Int32)) (v := (.long q18)) (by rw [e16]; exact Ar21.1) (State.isArrayOf_alike hZ.alike Ar21.2.1) Ar21.2.2 hin22 hat22 (g := (mkF m 33 (lc15 a1 q2 z11 2 1) [(.int 1), (.ref a14)])) rfl rfl (hb hby d6_33) _ (olload X16 hx hby d6_34 rfl (olcmp X16 hx hby d6_36 k))))))))) ?_
  have hs24 : ¬ (q18 < z11) := by rw [hz11]; exact hc23
  refine own_go (U' := T16.setTop (mkF m 16 (lc15 a1 q2 z11 1 2) [])) (fun t k => oifN X16 hx hby d6_37 (own_ll_lt_f hs24) (oiload X16 hx hby d6_40 rfl (oiload X16 hx hby d6_42 rfl (oisub X16 hx hby d6_44 (oistore X16 hx hby d6_45 (lc15 a1 q2 z11 1 1) rfl (oiload X16 hx hby d6_47 rfl (oiconst X16 hx hby d6_49 (oimul X16 hx hby d6_50 (oistore X16 hx hby d6_51 (lc15 a1 q2 z11 1 2) rfl (ogoto (pc := 53) X16 hx hby d6_53 16 (by decide) k)))))))))) ?_
  refine own_go (U' := T16.setTop (mkF m 21 (lc15 a1 q2 z11 1 2) [(.int ((1 : Int32) - (2 : Int32)))])) (fun t k => oiload X16 hx hby d6_16 rfl (oiload X16 hx hby d6_18 rfl (oisub X16 hx hby d6_20 k))) ?_
  rw [show ((1 : Int32) - (2 : Int32)) = (-1 : Int32) from by decide]
  refine own_go (U' := T16.setTop (mkF m 62 (lc15 a1 q2 z11 1 2) [(.int ((1 : Int32) - (2 : Int32))), (.int 0)])) (fun t k => oifY (pc := 21) X16 hx hby d6_21 56 (by decide) (by decide) (oiconst X16 hx hby d6_56 (oiload X16 hx hby d6_57 rfl (oiload X16 hx hby d6_59 rfl (oisub X16 hx hby d6_61 k))))) ?_
  rw [show ((1 : Int32) - (2 : Int32)) = (-1 : Int32) from by decide]
  refine own_go (U' := T16.setTop (mkF m 64 (lc15 a1 q2 z11 1 2) [(.int ((-1 : Int32) + (1 : Int32))), (.int 0)])) (fun t k => oiconst X16 hx hby d6_62 (oiadd X16 hx hby d6_63 k)) ?_
  rw [show ((-1 : Int32) + (1 : Int32)) = (0 : Int32) from by decide]
  obtain ⟨_, T25, L25, X25, hQ25, st25⟩ := ocallS X16 hx hZ zm4 hown (ww hw 48 rfl) (ww hw 49 rfl) (by decide) (ww hw 51 rfl) (ww hw 50 rfl) e16 (rm8_7 l Z a0 hw []  h0 n0 Z0 ) (st := [(.int 0), (.int 0)]) rfl 0 rfl (by decide) (pc := 64) (Ls := (lc15 a1 q2 z11 1 2)) hml rfl (lenOf pd_3 rfl) d6_64 hby
  obtain ⟨rfl, N25q, e25⟩ := hQ25
  have N26 := Fr.app N10 N25q
  refine own_go (U' := T25.setTop (mkF m 79 (lc18 a1 q2 z11 1 2 0 1) [(.int 1), (.int 1)])) (fun t k => st25 _ (oistore X25 hx hby d6_67 (lc17 a1 q2 z11 1 2 0) rfl (oiload X25 hx hby d6_69 rfl (oiload X25 hx hby d6_71 rfl (oisub X25 hx hby d6_73 (oistore X25 hx hby d6_74 (lc18 a1 q2 z11 1 2 0 1) rfl (oiload X25 hx hby d6_76 rfl (oiconst X25 hx hby d6_78 k)))))))) ?_
  refine own_go (U' := T25.setTop (mkF m 132 (lc18 a1 q2 z11 1 2 0 1) [(.int 1), (.int 0)])) (fun t k => oicY (pc := 79) X25 hx hby d6_79 128 (by decide) (by decide) (oiload X25 hx hby d6_128 rfl (oiload X25 hx hby d6_130 rfl k))) ?_
  obtain ⟨T27, X27, e27, st27⟩ := getF X25 hx hZ hown (host := "") (Or.inl (ww hw 23 rfl)) Via.refl e25 F15 (g := (mkF m 136 (lc18 a1 q2 z11 1 2 0 1) [(.ref a1)])) rfl rfl (hb hby d6_136)
  obtain ⟨cl28, Ar28, q28, S28, N28, H28, G28⟩ := id F20
  have hin29 : ¬ ((0 : Int32) < 0 ∨ cl28.slots.size ≤ ((0 : Int32)).toNatClampNeg) := inb_of S28 ⟨by decide, by decide⟩
  have hat29 : cl28.slots[((0 : Int32)).toNatClampNeg]? = some (.long q17) := Has.at H28 hin29 rfl
  refine own_go (U' := T27.setTop (mkF m 145 (lc18 a1 q2 z11 1 2 0 1) [(.int (lcmpW q17 z11))])) (fun t k => oicN X25 hx hby d6_132 (by decide) (oaloadN X25 hx hby d6_135 rfl rfl (st27 _ (oiload X27 hx hby d6_139 rfl (X27.laload hx (j := (0 : Int32)) (v := (.long q17)) (by rw [e27]; exact Ar28.1) (State.isArrayOf_alike hZ.alike Ar28.2.1) Ar28.2.2 hin29 hat29 (g := (mkF m 141 (lc18 a1 q2 z11 1 2 0 1) [(.int 0), (.ref a14)])) rfl rfl (hb hby d6_141) _ (olload X27 hx hby d6_142 rfl (olcmp X27 hx hby d6_144 k))))))) ?_
  have hs31 : q17 < z11 := by rw [hz11]; exact hc30
  refine own_go (U' := T27.setTop (mkF m 157 (lc18 a1 q2 z11 1 2 1 1) [(.int (lcmpW z11 (-9223372036854775808 : Int64)))])) (fun t k => oifN X27 hx hby d6_145 (own_ll_ge_f hs31) (oiinc X27 hx hby d6_148 (lc18 a1 q2 z11 1 2 1 1) rfl rfl (olload X27 hx hby d6_151 rfl (X27.ldc2Long hx hown (mvT hZ (ww hw 52 rfl)) (g := (mkF m 153 (lc18 a1 q2 z11 1 2 1 1) [(.long z11)])) rfl (hb hby d6_153) _ (olcmp X27 hx hby d6_156 k))))) ?_
  have hs33 : ¬ (z11 = (-9223372036854775808 : Int64)) := by rw [hz11]; exact hc32
  refine own_go (U' := T27.setTop (mkF m 166 (lc18 a1 q2 z11 1 2 1 1) [(.int (lcmpW z11 (9223372036854775807 : Int64)))])) (fun t k => oifN X27 hx hby d6_157 (own_ll_eq_f hs33) (olload X27 hx hby d6_160 rfl (X27.ldc2Long hx hown (mvT hZ (ww hw 53 rfl)) (g := (mkF m 162 (lc18 a1 q2 z11 1 2 1 1) [(.long z11)])) rfl (hb hby d6_162) _ (olcmp X27 hx hby d6_165 k)))) ?_
  have hs35 : ¬ (z11 = (9223372036854775807 : Int64)) := by rw [hz11]; exact hc34
  refine own_go (U' := T27.setTop (mkF m 178 (lc18 a1 q2 z11 1 2 1 1) [(.int 1)])) (fun t k => oifN X27 hx hby d6_166 (own_ll_eq_f hs35) (oiconst X27 hx hby d6_169 (ogoto (pc := 170) X27 hx hby d6_170 174 (by decide) (oistore X27 hx hby d6_174 (lc18 a1 q2 z11 1 2 1 1) rfl (oiload X27 hx hby d6_176 rfl k))))) ?_
  obtain ⟨T36, X36, e36, st36⟩ := getF X27 hx hZ hown (host := "") (Or.inl (ww hw 32 rfl)) Via.refl e27 F12 (g := (mkF m 230 (lc18 a1 q2 z11 1 2 1 1) [(.ref a1), (.int 1)])) rfl rfl (hb hby d6_230)
  refine own_go (U' := T36.setTop (mkF m 233 (lc18 a1 q2 z11 1 2 1 1) [(.int 2), (.int 1)])) (fun t k => oifY (pc := 178) X27 hx hby d6_178 227 (by decide) (by decide) (oiload X27 hx hby d6_227 rfl (oaloadN X27 hx hby d6_229 rfl rfl (st36 _ k)))) ?_
  obtain ⟨T37, X37, e37, st37⟩ := getF X36 hx hZ hown (host := "") (Or.inl (ww hw 23 rfl)) Via.refl e36 F15 (g := (mkF m 237 (lc18 a1 q2 z11 1 2 1 1) [(.ref a1)])) rfl rfl (hb hby d6_237)
  obtain ⟨cl38, Ar38, q38, S38, N38, H38, G38⟩ := id F20
  have hin39 : ¬ ((1 : Int32) < 0 ∨ cl38.slots.size ≤ ((1 : Int32)).toNatClampNeg) := inb_of S38 ⟨by decide, by decide⟩
  have hat39 : cl38.slots[((1 : Int32)).toNatClampNeg]? = some (.long q18) := Has.at H38 hin39 rfl
  refine own_go (U' := T37.setTop (mkF m 246 (lc18 a1 q2 z11 1 2 1 1) [(.int (lcmpW q18 z11))])) (fun t k => oicN X36 hx hby d6_233 (by decide) (oaloadN X36 hx hby d6_236 rfl rfl (st37 _ (oiload X37 hx hby d6_240 rfl (X37.laload hx (j := (1 : Int32)) (v := (.long q18)) (by rw [e37]; exact Ar38.1) (State.isArrayOf_alike hZ.alike Ar38.2.1) Ar38.2.2 hin39 hat39 (g := (mkF m 242 (lc18 a1 q2 z11 1 2 1 1) [(.int 1), (.ref a14)])) rfl rfl (hb hby d6_242) _ (olload X37 hx hby d6_243 rfl (olcmp X37 hx hby d6_245 k))))))) ?_
  have hs41 : ¬ (q18 = z11) := by rw [hz11]; exact hc40
  refine own_go (U' := T37.setTop (mkF m 280 (lc19 a1 q2 z11 1 2 1 1 0) [(.int 0)])) (fun t k => oifY (pc := 246) X37 hx hby d6_246 275 (own_ll_ne_t hs41) (by decide) (oiconst X37 hx hby d6_275 (oistore X37 hx hby d6_276 (lc19 a1 q2 z11 1 2 1 1 0) rfl (oiload X37 hx hby d6_278 rfl k)))) ?_
  refine own_go (U' := T37.setTop (mkF m 292 (lc19 a1 q2 z11 1 2 1 1 0) [(.int ((-1 : Int32) - (1 : Int32)))])) (fun t k => oifY (pc := 280) X37 hx hby d6_280 288 (by decide) (by decide) (oiconst X37 hx hby d6_288 (oiload X37 hx hby d6_289 rfl (oisub X37 hx hby d6_291 k)))) ?_
  rw [show ((-1 : Int32) - (1 : Int32)) = (-2 : Int32) from by decide]
  obtain ⟨fs, hr, hrun, hended, hW, hsame⟩ := X37.leave (v := some (.int (-2))) (fun h => by rw [Bd.returns] at h; cases h)
  refine own_out ⟨_, _, ?_, hrun, hended, _, _, rfl, ?_, ⟨_, rfl⟩, hW, hsame.mono (by decide) (by decide)⟩
  · exact retI X37 hx Bd.returns (hb hby d6_292) hr
  · show Q6_63 Z a1 q2 a4 a6 a14 q17 q18 kc19 h0 n0 _ T37.heap _
    rw [e37]
    exact ⟨rfl, N26, rfl⟩
def Qmg6_64 (Z : State) (a1 : Addr) (q2 : Int64) (a3 : Addr) (a5 : Addr) (a10 : Addr) (q12 : Int64) (q13 : Int64) (kc14 : ClassId) (h0 : Heap) (n0 : Nat) (v : Option Value) (h : Heap) (L : List Loc) : Prop := v = some (.int (-2)) ∧ Fr n0 L ∧ h = h0
theorem mg6_64 (l : Launch) (Z : State) (a0 : Array Value) (hw : ∀ d ∈ tables_1, d.before a0 Z = true) (ws : List Jvm.Cond) (a1 : Addr) (q2 : Int64) (a3 : Addr) (a5 : Addr) (a10 : Addr) (q12 : Int64) (q13 : Int64) (kc14 : ClassId) (h0 : Heap) (n0 : Nat) (Z0 : n0 ≤ h0.size) (F4 : Fld Z h0 a1 zs2 "side" zs4 (.ref a3)) (F6 : Sta Z h0 zs6 "BUY" zs4 (.ref a5)) (ha7 : a3 ≠ a5) (F8 : Exa Z h0 a1 zs2) (F9 : Fld Z h0 a1 zs2 "count" "I" (.int 2)) (F11 : Fld Z h0 a1 zs2 "ranks" "[J" (.ref a10)) (F15 : Arv Z h0 a10 kc14 .long (16 : Int32) [(.long q12), (.long q13)] (.long (0 : Int64))) (hc16 : ¬ (q13 < (q2 ^^^ (-1 : Int64)))) (hc17 : q12 < (q2 ^^^ (-1 : Int64))) (hc18 : ¬ ((q2 ^^^ (-1 : Int64)) = (-9223372036854775808 : Int64))) (hc19 : ¬ ((q2 ^^^ (-1 : Int64)) = (9223372036854775807 : Int64))) (hc20 : ¬ (q13 = (q2 ^^^ (-1 : Int64)))) :
    MetFree l zm5 (head1 (Jvm.Cond.code zm5 prog_2_method_8_code 11 (some .int) :: ws) ({ frames := 1, cells := 0, slots := 0, locals := 14 } : Room)) (fun a U => a = #[(.ref a1), (.long q2), .null] ∧ Z.Warmed39 U.vm ∧ U.heap = h0) (fun _ _ _ _ _ => True) (fun _ U o U' => ∃ v L, o = .returned v ∧ Qmg6_64 Z a1 q2 a3 a5 a10 q12 q13 kc14 h0 n0 v U'.heap L ∧ FrameEnd U o U' L ({ frames := 1, cells := 0, slots := 0, locals := 14 } : Room).cells ({ frames := 1, cells := 0, slots := 0, locals := 14 } : Room).slots) := by
  exact rm6_63 l Z a0 hw ws a1 q2 a3 a5 a10 q12 q13 kc14 h0 n0 Z0 F4 F6 ha7 F8 F9 F11 F15 hc16 hc17 hc18 hc19 hc20
def Q5_65 (Z : State) (a1 : Addr) (q2 : Int64) (a4 : Addr) (a6 : Addr) (a11 : Addr) (q13 : Int64) (q14 : Int64) (kc15 : ClassId) (a24 : Addr) (a27 : Addr) (a28 : Addr) (kc29 : ClassId) (h0 : Heap) (n0 : Nat) (v : Option Value) (h : Heap) (L : List Loc) : Prop := ∃ b53 : Addr, v = some (.ref b53) ∧ Fr n0 L ∧ Keep h0 h [a24, a11, a1] ∧ h0.size ≤ b53 ∧ Arv Z h a24 kc29 (.object zs1) (16 : Int32) [(.ref a27), (.ref b53), (.ref a28)] .null ∧ Arv Z h a11 kc15 .long (16 : Int32) [(.long q13), (.long (q2 ^^^ (-1 : Int64))), (.long q14)] (.long (0 : Int64)) ∧ Fld Z h a1 zs2 "side" zs4 (.ref a4) ∧ Fld Z h a1 zs2 "count" "I" (.int 3) ∧ Fld Z h a1 zs2 "ranks" "[J" (.ref a11) ∧ Fld Z h a1 zs2 "levels" zs3 (.ref a24) ∧ Fld Z h a1 zs2 "emptyLevels" "I" (.int 0) ∧ Exa Z h b53 zs1 ∧ Fld Z h b53 zs1 "price" zs10 .null ∧ Fld Z h b53 zs1 "priceSteps" "J" (.long q2) ∧ Fld Z h b53 zs1 "first" zs11 .null
set_option maxRecDepth 65536 in
set_option maxHeartbeats 40000000 in
theorem rm5_65 (l : Launch) (Z : State) (a0 : Array Value) (hw : ∀ d ∈ tables_1, d.before a0 Z = true) (ws : List Jvm.Cond) (a1 : Addr) (q2 : Int64) (a4 : Addr) (a6 : Addr) (a11 : Addr) (q13 : Int64) (q14 : Int64) (kc15 : ClassId) (a24 : Addr) (a27 : Addr) (a28 : Addr) (kc29 : ClassId) (h0 : Heap) (n0 : Nat) (Z0 : n0 ≤ h0.size) (F5 : Fld Z h0 a1 zs2 "side" zs4 (.ref a4)) (F7 : Sta Z h0 zs6 "BUY" zs4 (.ref a6)) (ha8 : a4 ≠ a6) (F9 : Exa Z h0 a1 zs2) (F10 : Fld Z h0 a1 zs2 "count" "I" (.int 2)) (F12 : Fld Z h0 a1 zs2 "ranks" "[J" (.ref a11)) (F16 : Arv Z h0 a11 kc15 .long (16 : Int32) [(.long q13), (.long q14)] (.long (0 : Int64))) (hc17 : ¬ (q14 < (q2 ^^^ (-1 : Int64)))) (hc18 : q13 < (q2 ^^^ (-1 : Int64))) (hc19 : ¬ ((q2 ^^^ (-1 : Int64)) = (-9223372036854775808 : Int64))) (hc20 : ¬ ((q2 ^^^ (-1 : Int64)) = (9223372036854775807 : Int64))) (hc21 : ¬ (q14 = (q2 ^^^ (-1 : Int64)))) (F25 : Fld Z h0 a1 zs2 "levels" zs3 (.ref a24)) (F30 : Arv Z h0 a24 kc29 (.object zs1) (16 : Int32) [(.ref a27), (.ref a28)] .null) (g37 : n0 ≤ a24) (O38 : Ovr Z kc29 zs1) (F39 : Exa Z h0 a28 zs1) (ne41 : a1 ≠ a24) (ne48 : a11 ≠ a24) (g51 : n0 ≤ a11) (ne63 : a1 ≠ a11) (F89 : Fld Z h0 a1 zs2 "emptyLevels" "I" (.int 0)) (g92 : n0 ≤ a1) :
    MetFree l zm7 (head1 (Jvm.Cond.code zm7 prog_2_method_5_code 7 (some (.object zs1)) :: ws) ({ frames := 2, cells := 1, slots := 4, locals := 36 } : Room)) (fun a U => a = #[(.ref a1), (.long q2), .null] ∧ Z.Warmed39 U.vm ∧ U.heap = h0) (fun _ _ _ _ _ => True) (fun _ U o U' => ∃ v L, o = .returned v ∧ Q5_65 Z a1 q2 a4 a6 a11 q13 q14 kc15 a24 a27 a28 kc29 h0 n0 v U'.heap L ∧ FrameEnd U o U' L ({ frames := 2, cells := 1, slots := 4, locals := 36 } : Room).cells ({ frames := 2, cells := 1, slots := 4, locals := 36 } : Room).slots) := by
  refine MetFree.of_bodySF (plainFor_of_name pn_com_example_srok_srok_engine_BookSide) hisR ?_
  intro p e s m args below meth c s₁ Bd hml0 hP hK
  obtain ⟨rfl, hZ, hh⟩ := hP
  have hx := Bd.exec
  have hby := Bd.bytes
  have hml : c.maxLocals = 7 := hml0
  have hown : s.vm.findClass zs2 = some m.cls := findClass_of_methodNamed Bd.named
  have hnm := (name_of_methodNamed Bd.named Bd.method).1
  have X0 : Stand p l e ({ frames := 2, cells := 1, slots := 4, locals := 36 } : Room) s m #[(.ref a1), (.long q2), .null] below meth c s₁ [] 0 0 := Stand.of_body Bd
  have e0 : s₁.heap = h0 := by rw [← hh, Bd.state]; rfl
  have N0 := Fr.nil n0
  refine own_pre (g' := mkF m 0 (lc10 a1 q2) []) (ef_7 m a1 q2) ?_
  obtain ⟨_, T3, L3, X3, hQ3, st3⟩ := ocallP X0 hx hZ zm5 hown (ww hw 39 rfl) (ww hw 40 rfl) (own_selP (mvT hZ (ww hw 10 rfl)) (mvP hZ (ww hw 41 rfl)) (mvT hZ (ww hw 40 rfl)) (by decide)) (ww hw 41 rfl) (by decide) (ww hw 42 rfl) (ww hw 11 rfl) e0 F9 (mg6_64 l Z a0 hw [] a1 q2 a4 a6 a11 q13 q14 kc15 h0 n0 Z0 F5 F7 ha8 F9 F10 F12 F16 hc17 hc18 hc19 hc20 hc21) (st := [.null, (.long q2), (.ref a1)]) rfl 0 rfl (by decide) (pc := 3) (Ls := (lc10 a1 q2)) hml rfl (lenOf pd_4 rfl) d5_3 hby
  obtain ⟨rfl, N3q, e3⟩ := hQ3
  have N22 := Fr.app N0 N3q
  refine own_go (U' := T3.setTop (mkF m 10 (lc20 a1 q2 (-2)) [(.int (-2))])) (fun t k => oaloadN X0 hx hby d5_0 rfl rfl (olloadN X0 hx hby d5_1 rfl (oaloadN X0 hx hby d5_2 rfl rfl (st3 _ (oistore X3 hx hby d5_6 (lc20 a1 q2 (-2)) rfl (oiload X3 hx hby d5_8 rfl k)))))) ?_
  refine own_go (U' := T3.setTop (mkF m 47 (lc20 a1 q2 (-2)) [(.int (-(-2 : Int32)))])) (fun t k => oifY (pc := 10) X3 hx hby d5_10 44 (by decide) (by decide) (oiload X3 hx hby d5_44 rfl (oineg X3 hx hby d5_46 k))) ?_
  rw [show (-(-2 : Int32)) = (2 : Int32) from by decide]
  obtain ⟨T23, X23, e23, st23⟩ := getF X3 hx hZ hown (host := "") (Or.inl (ww hw 32 rfl)) Via.refl e3 F10 (g := (mkF m 52 (lc21 a1 q2 (-2) 1) [(.ref a1)])) rfl rfl (hb hby d5_52)
  obtain ⟨T26, X26, e26, st26⟩ := getF X23 hx hZ hown (host := "") (Or.inl (ww hw 20 rfl)) Via.refl e23 F25 (g := (mkF m 56 (lc21 a1 q2 (-2) 1) [(.ref a1), (.int 2)])) rfl rfl (hb hby d5_56)
  refine own_go (U' := T26.setTop (mkF m 59 (lc21 a1 q2 (-2) 1) [(.ref a24), (.int 2)])) (fun t k => oiconst X3 hx hby d5_47 (oisub X3 hx hby d5_48 (oistore X3 hx hby d5_49 (lc21 a1 q2 (-2) 1) rfl (oaloadN X3 hx hby d5_51 rfl rfl (st23 _ (oaloadN X23 hx hby d5_55 rfl rfl (st26 _ k))))))) ?_
  obtain ⟨cl31, Ar31, q31, S31, N31, H31, G31⟩ := id F30
  refine own_go (fun t k => X26.arraylength hx (by rw [e26]; exact Ar31.1) (State.isArrayOf_alike hZ.alike Ar31.2.1) (g := (mkF m 59 (lc21 a1 q2 (-2) 1) [(.ref a24), (.int 2)])) rfl rfl (hb hby d5_59) _ k) ?_
  rw [len_of S31 N31]
  obtain ⟨T32, X32, e32, st32⟩ := getF X26 hx hZ hown (host := "") (Or.inl (ww hw 20 rfl)) Via.refl e26 F25 (g := (mkF m 101 (lc21 a1 q2 (-2) 1) [(.ref a1)])) rfl rfl (hb hby d5_101)
  obtain ⟨T33, X33, e33, st33⟩ := getF X32 hx hZ hown (host := "") (Or.inl (ww hw 20 rfl)) Via.refl e32 F25 (g := (mkF m 107 (lc21 a1 q2 (-2) 1) [(.ref a1), (.int 1), (.ref a24)])) rfl rfl (hb hby d5_107)
  obtain ⟨T34, X34, e34, st34⟩ := getF X33 hx hZ hown (host := "") (Or.inl (ww hw 32 rfl)) Via.refl e33 F10 (g := (mkF m 115 (lc21 a1 q2 (-2) 1) [(.ref a1), (.int 2), (.ref a24), (.int 1), (.ref a24)])) rfl rfl (hb hby d5_115)
  have f36 : Arv Z h0 a24 kc29 (.object zs1) (16 : Int32) [(.ref a27), (.ref a28), .null] .null := F30.pad (pad_rep [(.ref a27), (.ref a28)] .null 1)
  obtain ⟨cl35, Ar35, q35, -⟩ := id f36
  obtain ⟨T35, h35, L35, X35, e35, N35, K35, V35, st35⟩ := cpA X34 hx hZ hown (ww hw 54 rfl) (ww hw 57 rfl) (ww hw 55 rfl) (ww hw 56 rfl) e34 (us := [(.ref a28)]) f36 f36 (Or.inr ⟨rfl, rfl, ⟨(Sto.ofV Ar35 q35 O38 (Ins.self F39)), trivial⟩⟩) (by decide) (by decide) (by decide) (by decide) (by decide) rfl (Nat.le_of_ble_eq_true rfl) N22 g37 (g := (mkF m 121 (lc21 a1 q2 (-2) 1) [(.int 1), (.int 2), (.ref a24), (.int 1), (.ref a24)])) rfl (by rw [hml]; rfl) rfl (hb hby d5_121) (by decide) (W := 0) (by show 2 * 0 + _ ≤ _; exact Nat.le_of_eq rfl) (by decide)
  have f40 : Arv Z h35 a24 kc29 (.object zs1) (16 : Int32) [(.ref a27), (.ref a28), (.ref a28)] .null := V35
  have f42 : Fld Z h35 a1 zs2 "ranks" "[J" (.ref a11) := (F12.keep K35 (ninS ne41 nin0))
  obtain ⟨T43, X43, e43, st43⟩ := getF X35 hx hZ hown (host := "") (Or.inl (ww hw 23 rfl)) Via.refl e35 f42 (g := (mkF m 125 (lc21 a1 q2 (-2) 1) [(.ref a1)])) rfl rfl (hb hby d5_125)
  obtain ⟨T44, X44, e44, st44⟩ := getF X43 hx hZ hown (host := "") (Or.inl (ww hw 23 rfl)) Via.refl e43 f42 (g := (mkF m 131 (lc21 a1 q2 (-2) 1) [(.ref a1), (.int 1), (.ref a11)])) rfl rfl (hb hby d5_131)
  have f45 : Fld Z h35 a1 zs2 "count" "I" (.int 2) := (F10.keep K35 (ninS ne41 nin0))
  obtain ⟨T46, X46, e46, st46⟩ := getF X44 hx hZ hown (host := "") (Or.inl (ww hw 32 rfl)) Via.refl e44 f45 (g := (mkF m 139 (lc21 a1 q2 (-2) 1) [(.ref a1), (.int 2), (.ref a11), (.int 1), (.ref a11)])) rfl rfl (hb hby d5_139)
  have f49 : Arv Z h35 a11 kc15 .long (16 : Int32) [(.long q13), (.long q14)] (.long (0 : Int64)) := (F16.keep K35 (ninS ne48 nin0))
  have f50 : Arv Z h35 a11 kc15 .long (16 : Int32) [(.long q13), (.long q14), (.long 0)] (.long (0 : Int64)) := f49.pad (pad_rep [(.long q13), (.long q14)] (.long (0 : Int64)) 1)
  obtain ⟨T47, h47, L47, X47, e47, N47, K47, V47, st47⟩ := cpA X46 hx hZ hown (ww hw 54 rfl) (ww hw 57 rfl) (ww hw 55 rfl) (ww hw 56 rfl) e46 (us := [(.long q14)]) f50 f50 (Or.inl ⟨rfl, rfl⟩) (by decide) (by decide) (by decide) (by decide) (by decide) rfl (Nat.le_of_ble_eq_true rfl) N35 g51 (g := (mkF m 145 (lc21 a1 q2 (-2) 1) [(.int 1), (.int 2), (.ref a11), (.int 1), (.ref a11)])) rfl (by rw [hml]; rfl) rfl (hb hby d5_145) (by decide) (W := 0) (by show 2 * 0 + _ ≤ _; exact Nat.le_of_eq rfl) (by decide)
  have f52 : Arv Z h47 a11 kc15 .long (16 : Int32) [(.long q13), (.long q14), (.long q14)] (.long (0 : Int64)) := V47
  obtain ⟨T53, h53, X53, e53, E53, A53, D53, -, st53⟩ := newO X47 hx hZ hown (ww hw 18 rfl) (ww hw 58 rfl) (ww hw 59 rfl) e47 (g := (mkF m 148 (lc21 a1 q2 (-2) 1) [])) rfl (hb hby d5_148) (by decide) (by decide)
  obtain ⟨b53, g53⟩ : ∃ z, z = h47.size := ⟨_, rfl⟩
  rw [← g53] at A53 D53 st53
  have f54 : Fld Z h53 b53 zs1 "price" zs10 .null := D53 (Or.inr (ww hw 65 rfl)) (ty := (.object zs13)) (by decide)
  have f55 : Fld Z h53 b53 zs1 "priceSteps" "J" (.long 0) := D53 (Or.inr (ww hw 67 rfl)) (ty := .long) (by decide)
  have f56 : Fld Z h53 b53 zs1 "first" zs11 .null := D53 (Or.inl (ww hw 78 rfl)) (ty := (.object zs14)) (by decide)
  have Z_1 : n0 ≤ h35.size := Nat.le_trans Z0 K35.1
  have Z_2 : n0 ≤ h47.size := Nat.le_trans Z_1 K47.1
  have g58 : n0 ≤ b53 := Nat.le_trans Z_2 (Nat.le_of_eq g53.symm)
  have Z_3 : n0 ≤ h53.size := Nat.le_trans Z_2 E53.1
  obtain ⟨_, T57, L57, X57, hQ57, st57⟩ := ocallI X53 hx hZ zm6 rfl hown (ww hw 60 rfl) (ww hw 61 rfl) (by decide) (ww hw 62 rfl) (ww hw 59 rfl) e53 (rm9_10 l Z a0 hw [] b53 q2 h53 n0 Z_3 f54 f55 f56 A53 g58) (st := [(.long q2), .null, (.ref b53), (.ref b53)]) rfl 1 rfl (by decide) (pc := 154) (Ls := (lc21 a1 q2 (-2) 1)) hml rfl (lenOf pd_5 rfl) d5_154 hby
  obtain ⟨rfl, N57q, K57, f59, f60, f61⟩ := hQ57
  have N62 := Fr.app N47 N57q
  have ne64 : a1 ≠ b53 := Nat.ne_of_lt (Nat.lt_of_lt_of_le (Nat.lt_of_lt_of_le (Nat.lt_of_lt_of_le (F5.lt) K35.1) K47.1) (Nat.le_of_eq g53.symm))
  have f65 : Fld Z T57.heap a1 zs2 "levels" zs3 (.ref a24) := ((Fld.ext E53 ((F25.keep K35 (ninS ne41 nin0)).keep K47 (ninS ne63 nin0))).keep K57 (ninS ne64 nin0))
  obtain ⟨T66, X66, e66, st66⟩ := getF X57 hx hZ hown (host := "") (Or.inl (ww hw 20 rfl)) Via.refl rfl f65 (g := (mkF m 160 (lc23 a1 q2 (-2) 1 b53) [(.ref a1)])) rfl rfl (hb hby d5_160)
  have ne67 : a24 ≠ b53 := Nat.ne_of_lt (Nat.lt_of_lt_of_le (Nat.lt_of_lt_of_le (f40.lt) K47.1) (Nat.le_of_eq g53.symm))
  have f68 : Arv Z T57.heap a24 kc29 (.object zs1) (16 : Int32) [(.ref a27), (.ref a28), (.ref a28)] .null := (((f40.keep K47 (ninS (Ne.symm ne48) nin0)).ext E53).keep K57 (ninS ne67 nin0))
  have f69 : Exa Z T57.heap b53 zs1 := (A53.keep K57)
  obtain ⟨cl70, Ar70, q70, S70, N70, H70, G70⟩ := id f68
  have hin71 : ¬ ((1 : Int32) < 0 ∨ cl70.slots.size ≤ ((1 : Int32)).toNatClampNeg) := inb_of S70 ⟨by decide, by decide⟩
  obtain ⟨T71, h71, X71, e71, W71, st71⟩ := stR X66 hx hZ e66 Ar70 (j := (1 : Int32)) hin71 rfl (Sto.ofV Ar70 q70 O38 (Ins.self f69)) (g := (mkF m 167 (lc23 a1 q2 (-2) 1 b53) [(.ref b53), (.int 1), (.ref a24)])) rfl rfl (hb hby d5_167)
  have N72 := Fr.snoc X71 N62 g37
  have f73 : Arv Z h71 a24 kc29 (.object zs1) (16 : Int32) [(.ref a27), (.ref b53), (.ref a28)] .null := Arv.set Ar70 q70 S70 N70 H70 G70 (by rfl) W71 1 rfl (Nat.le_of_ble_eq_true rfl)
  have f74 : Fld Z h71 a1 zs2 "ranks" "[J" (.ref a11) := (Fld.other W71 ((Fld.ext E53 (f42.keep K47 (ninS ne63 nin0))).keep K57 (ninS ne64 nin0)) (Or.inl ne41))
  obtain ⟨T75, X75, e75, st75⟩ := getF X71 hx hZ hown (host := "") (Or.inl (ww hw 23 rfl)) Via.refl e71 f74 (g := (mkF m 169 (lc23 a1 q2 (-2) 1 b53) [(.ref a1)])) rfl rfl (hb hby d5_169)
  have f77 : Fld Z h71 a1 zs2 "side" zs4 (.ref a4) := (Fld.other W71 ((Fld.ext E53 ((F5.keep K35 (ninS ne41 nin0)).keep K47 (ninS ne63 nin0))).keep K57 (ninS ne64 nin0)) (Or.inl ne41))
  have f78 : Sta Z h71 zs6 "BUY" zs4 (.ref a6) := (Sta.wr W71 (own_staK (Sta.ext E53 (own_staK (own_staK F7 K35 (allS (own_nsV f36) all0)) K47 (allS (own_nsV f50) all0))) K57 (allS (own_nsF f54) all0)))
  have Z_4 : n0 ≤ T57.heap.size := Nat.le_trans Z_3 K57.1
  have Z_5 : n0 ≤ h71.size := Nat.le_trans Z_4 (Keep.of_wr W71).1
  have f79 : Exa Z h71 a1 zs2 := (Exa.wr W71 ((Exa.ext E53 ((F9.keep K35).keep K47)).keep K57))
  obtain ⟨_, T76, L76, X76, hQ76, st76⟩ := ocallP X75 hx hZ zm3 hown (ww hw 43 rfl) (ww hw 44 rfl) (own_selP (mvT hZ (ww hw 10 rfl)) (mvP hZ (ww hw 45 rfl)) (mvT hZ (ww hw 44 rfl)) (by decide)) (ww hw 45 rfl) (by decide) (ww hw 46 rfl) (ww hw 11 rfl) e75 f79 (rm7_48 l Z a0 hw [] a1 q2 a4 a6 h71 n0 Z_5 f77 f78 ha8) (st := [(.long q2), (.ref a1), (.int 1), (.ref a11)]) rfl 2 rfl (by decide) (pc := 176) (Ls := (lc23 a1 q2 (-2) 1 b53)) hml rfl (lenOf pd_0 rfl) d5_176 hby
  obtain ⟨rfl, N76q, e76⟩ := hQ76
  have N80 := Fr.app N72 N76q
  have ne81 : a11 ≠ b53 := Nat.ne_of_lt (Nat.lt_of_lt_of_le (f52.lt) (Nat.le_of_eq g53.symm))
  have f82 : Arv Z h71 a11 kc15 .long (16 : Int32) [(.long q13), (.long q14), (.long q14)] (.long (0 : Int64)) := (((f52.ext E53).keep K57 (ninS ne81 nin0)).other W71 ne48)
  obtain ⟨cl83, Ar83, q83, S83, N83, H83, G83⟩ := id f82
  have hin84 : ¬ ((1 : Int32) < 0 ∨ cl83.slots.size ≤ ((1 : Int32)).toNatClampNeg) := inb_of S83 ⟨by decide, by decide⟩
  obtain ⟨T84, h84, X84, e84, W84, st84⟩ := stJ X76 hx hZ e76 Ar83 (j := (1 : Int32)) hin84 (g := (mkF m 179 (lc23 a1 q2 (-2) 1 b53) [(.long (q2 ^^^ (-1 : Int64))), (.int 1), (.ref a11)])) rfl rfl (hb hby d5_179)
  have N85 := Fr.snoc X84 N80 g51
  have f86 : Arv Z h84 a11 kc15 .long (16 : Int32) [(.long q13), (.long (q2 ^^^ (-1 : Int64))), (.long q14)] (.long (0 : Int64)) := Arv.set Ar83 q83 S83 N83 H83 G83 (by rfl) W84 1 rfl (Nat.le_of_ble_eq_true rfl)
  have f87 : Fld Z h84 a1 zs2 "count" "I" (.int 2) := (Fld.other W84 (Fld.other W71 ((Fld.ext E53 (f45.keep K47 (ninS ne63 nin0))).keep K57 (ninS ne64 nin0)) (Or.inl ne41)) (Or.inl ne63))
  obtain ⟨T88, X88, e88, st88⟩ := getF X84 hx hZ hown (host := "") (Or.inl (ww hw 32 rfl)) Via.refl e84 f87 (g := (mkF m 182 (lc23 a1 q2 (-2) 1 b53) [(.ref a1), (.ref a1)])) rfl rfl (hb hby d5_182)
  have f90 : Exa Z h84 a1 zs2 := (Exa.wr W84 f79)
  obtain ⟨T91, h91, X91, e91, W91, st91⟩ := putF X88 hx hZ hown (host := "") (Or.inl (ww hw 32 rfl)) Via.refl e88 f87 f90 (Or.inl (ww hw 33 rfl)) (ww hw 10 rfl) (ty := .int) (by decide) rfl rfl (g := (mkF m 187 (lc23 a1 q2 (-2) 1 b53) [(.int 3), (.ref a1)])) rfl rfl (hb hby d5_187)
  have N93 := Fr.snoc X91 N85 g92
  have f94 : Fld Z h91 a1 zs2 "count" "I" (.int 3) := Fld.same W91 f87
  refine own_go (U' := T91.setTop (mkF m 192 (lc23 a1 q2 (-2) 1 b53) [(.ref b53)])) (fun t k => oicY (pc := 60) X26 hx hby d5_60 100 (by decide) (by decide) (oaloadN X26 hx hby d5_100 rfl rfl (st32 _ (oiload X32 hx hby d5_104 rfl (oaloadN X32 hx hby d5_106 rfl rfl (st33 _ (oiload X33 hx hby d5_110 rfl (oiconst X33 hx hby d5_112 (oiadd X33 hx hby d5_113 (oaloadN X33 hx hby d5_114 rfl rfl (st34 _ (oiload X34 hx hby d5_118 rfl (oisub X34 hx hby d5_120 (st35 _ (oaloadN X35 hx hby d5_124 rfl rfl (st43 _ (oiload X43 hx hby d5_128 rfl (oaloadN X43 hx hby d5_130 rfl rfl (st44 _ (oiload X44 hx hby d5_134 rfl (oiconst X44 hx hby d5_136 (oiadd X44 hx hby d5_137 (oaloadN X44 hx hby d5_138 rfl rfl (st46 _ (oiload X46 hx hby d5_142 rfl (oisub X46 hx hby d5_144 (st47 _ (st53 _ (odup X53 hx hby d5_151 rfl (oaloadN X53 hx hby d5_152 rfl rfl (olloadN X53 hx hby d5_153 rfl (st57 _ (oastore X57 hx hby d5_157 (lc23 a1 q2 (-2) 1 b53) rfl rfl (oaloadN X57 hx hby d5_159 rfl rfl (st66 _ (oiload X66 hx hby d5_163 rfl (oaload X66 hx hby d5_165 rfl rfl (st71 _ (oaloadN X71 hx hby d5_168 rfl rfl (st75 _ (oiload X75 hx hby d5_172 rfl (oaloadN X75 hx hby d5_174 rfl rfl (olloadN X75 hx hby d5_175 rfl (st76 _ (st84 _ (oaloadN X84 hx hby d5_180 rfl rfl (odup X84 hx hby d5_181 rfl (st88 _ (oiconst X88 hx hby d5_185 (oiadd X88 hx hby d5_186 (st91 _ (oaload X91 hx hby d5_190 rfl rfl k)))))))))))))))))))))))))))))))))))))))))))))))))))) ?_
  have f95 : Arv Z h91 a24 kc29 (.object zs1) (16 : Int32) [(.ref a27), (.ref b53), (.ref a28)] .null := ((f73.other W84 (Ne.symm ne48)).other W91 (Ne.symm ne41))
  have f96 : Arv Z h91 a11 kc15 .long (16 : Int32) [(.long q13), (.long (q2 ^^^ (-1 : Int64))), (.long q14)] (.long (0 : Int64)) := (f86.other W91 (Ne.symm ne63))
  have f97 : Fld Z h91 a1 zs2 "side" zs4 (.ref a4) := (Fld.other W91 (Fld.other W84 f77 (Or.inl ne63)) (Or.inr (slot_ne (Or.inr (ww hw 26 rfl)) (Or.inl (ww hw 33 rfl)) (by decide) (t := (.object zs6)) (t' := .int) (by decide) (by decide))))
  have f98 : Fld Z h91 a1 zs2 "ranks" "[J" (.ref a11) := (Fld.other W91 (Fld.other W84 f74 (Or.inl ne63)) (Or.inr (slot_ne (Or.inl (ww hw 24 rfl)) (Or.inl (ww hw 33 rfl)) (by decide) (t := (.array .long)) (t' := .int) (by decide) (by decide))))
  have f99 : Fld Z h91 a1 zs2 "levels" zs3 (.ref a24) := (Fld.other W91 (Fld.other W84 (Fld.other W71 f65 (Or.inl ne41)) (Or.inl ne63)) (Or.inr (slot_ne (Or.inl (ww hw 21 rfl)) (Or.inl (ww hw 33 rfl)) (by decide) (t := (.array (.object zs1))) (t' := .int) (by decide) (by decide))))
  have f100 : Fld Z h91 a1 zs2 "emptyLevels" "I" (.int 0) := (Fld.other W91 (Fld.other W84 (Fld.other W71 ((Fld.ext E53 ((F89.keep K35 (ninS ne41 nin0)).keep K47 (ninS ne63 nin0))).keep K57 (ninS ne64 nin0)) (Or.inl ne41)) (Or.inl ne63)) (Or.inr (slot_ne (Or.inl (ww hw 80 rfl)) (Or.inl (ww hw 33 rfl)) (by decide) (t := .int) (t' := .int) (by decide) (by decide))))
  have f101 : Exa Z h91 b53 zs1 := (Exa.wr W91 (Exa.wr W84 (Exa.wr W71 f69)))
  have f102 : Fld Z h91 b53 zs1 "price" zs10 .null := (Fld.other W91 (Fld.other W84 (Fld.other W71 f59 (Or.inl (Ne.symm ne67))) (Or.inl (Ne.symm ne81))) (Or.inl (Ne.symm ne64)))
  have f103 : Fld Z h91 b53 zs1 "priceSteps" "J" (.long q2) := (Fld.other W91 (Fld.other W84 (Fld.other W71 f60 (Or.inl (Ne.symm ne67))) (Or.inl (Ne.symm ne81))) (Or.inl (Ne.symm ne64)))
  have f104 : Fld Z h91 b53 zs1 "first" zs11 .null := (Fld.other W91 (Fld.other W84 (Fld.other W71 f61 (Or.inl (Ne.symm ne67))) (Or.inl (Ne.symm ne81))) (Or.inl (Ne.symm ne64)))
  obtain ⟨fs, hr, hrun, hended, hW, hsame⟩ := X91.leave (v := some (.ref b53)) (fun h => by rw [Bd.returns] at h; cases h)
  refine own_out ⟨_, _, ?_, hrun, hended, _, _, rfl, ?_, ⟨_, rfl⟩, hW, hsame.mono (by decide) (by decide)⟩
  · exact retOut X91 hx Bd.returns rfl (Or.inr (Or.inr (Or.inr (Or.inr ⟨rfl, rfl, rfl⟩)))) (hb hby d5_192) hr
  · show Q5_65 Z a1 q2 a4 a6 a11 q13 q14 kc15 a24 a27 a28 kc29 h0 n0 _ T91.heap _
    rw [e91]
    exact ⟨b53, rfl, N93, ((((Keep.trans ((Keep.trans (Keep.trans (Keep.refl h0 [a24, a11, a1]) K35 (allS (Or.inl (List.mem_of_getElem? (i := 0) rfl)) all0)) K47 (allS (Or.inl (List.mem_of_getElem? (i := 1) rfl)) all0)).ext E53) K57 (allS (Or.inr (Nat.le_trans K35.1 (Nat.le_trans K47.1 (Nat.le_of_eq g53.symm)))) all0)).wr W71 (Or.inl (List.mem_of_getElem? (i := 0) rfl))).wr W84 (Or.inl (List.mem_of_getElem? (i := 1) rfl))).wr W91 (Or.inl (List.mem_of_getElem? (i := 2) rfl))), (Nat.le_trans K35.1 (Nat.le_trans K47.1 (Nat.le_of_eq g53.symm))), f95, f96, f97, f94, f98, f99, f100, f101, f102, f103, f104⟩
def Q6_66 (Z : State) (a1 : Addr) (q2 : Int64) (a4 : Addr) (a6 : Addr) (a14 : Addr) (q17 : Int64) (q18 : Int64) (kc19 : ClassId) (h0 : Heap) (n0 : Nat) (v : Option Value) (h : Heap) (L : List Loc) : Prop := v = some (.int 0) ∧ Fr n0 L ∧ h = h0
set_option maxRecDepth 65536 in
set_option maxHeartbeats 40000000 in
theorem rm6_66 (l : Launch) (Z : State) (a0 : Array Value) (hw : ∀ d ∈ tables_1, d.before a0 Z = true) (ws : List Jvm.Cond) (a1 : Addr) (q2 : Int64) (a4 : Addr) (a6 : Addr) (a14 : Addr) (q17 : Int64) (q18 : Int64) (kc19 : ClassId) (h0 : Heap) (n0 : Nat) (Z0 : n0 ≤ h0.size) (F5 : Fld Z h0 a1 zs2 "side" zs4 (.ref a4)) (F7 : Sta Z h0 zs6 "BUY" zs4 (.ref a6)) (ha8 : a4 ≠ a6) (F9 : Exa Z h0 a1 zs2) (F12 : Fld Z h0 a1 zs2 "count" "I" (.int 2)) (F15 : Fld Z h0 a1 zs2 "ranks" "[J" (.ref a14)) (F20 : Arv Z h0 a14 kc19 .long (16 : Int32) [(.long q17), (.long q18)] (.long (0 : Int64))) (hc23 : ¬ (q18 < (q2 ^^^ (-1 : Int64)))) (hc30 : ¬ (q17 < (q2 ^^^ (-1 : Int64)))) (hc32 : ¬ ((q2 ^^^ (-1 : Int64)) = (-9223372036854775808 : Int64))) (hc34 : ¬ ((q2 ^^^ (-1 : Int64)) = (9223372036854775807 : Int64))) (hc40 : q17 = (q2 ^^^ (-1 : Int64))) :
    MetFree l zm5 (head1 (Jvm.Cond.code zm5 prog_2_method_8_code 11 (some .int) :: ws) ({ frames := 1, cells := 0, slots := 0, locals := 14 } : Room)) (fun a U => a = #[(.ref a1), (.long q2), .null] ∧ Z.Warmed39 U.vm ∧ U.heap = h0) (fun _ _ _ _ _ => True) (fun _ U o U' => ∃ v L, o = .returned v ∧ Q6_66 Z a1 q2 a4 a6 a14 q17 q18 kc19 h0 n0 v U'.heap L ∧ FrameEnd U o U' L ({ frames := 1, cells := 0, slots := 0, locals := 14 } : Room).cells ({ frames := 1, cells := 0, slots := 0, locals := 14 } : Room).slots) := by
  refine MetFree.of_bodySF (plainFor_of_name pn_com_example_srok_srok_engine_BookSide) hisR ?_
  intro p e s m args below meth c s₁ Bd hml0 hP hK
  obtain ⟨rfl, hZ, hh⟩ := hP
  have hx := Bd.exec
  have hby := Bd.bytes
  have hml : c.maxLocals = 11 := hml0
  have hown : s.vm.findClass zs2 = some m.cls := findClass_of_methodNamed Bd.named
  have hnm := (name_of_methodNamed Bd.named Bd.method).1
  have X0 : Stand p l e ({ frames := 1, cells := 0, slots := 0, locals := 14 } : Room) s m #[(.ref a1), (.long q2), .null] below meth c s₁ [] 0 0 := Stand.of_body Bd
  have e0 : s₁.heap = h0 := by rw [← hh, Bd.state]; rfl
  have N0 := Fr.nil n0
  refine own_pre (g' := mkF m 0 (lc11 a1 q2) []) (ef_5 m a1 q2) ?_
  obtain ⟨_, T3, L3, X3, hQ3, st3⟩ := ocallP X0 hx hZ zm3 hown (ww hw 43 rfl) (ww hw 44 rfl) (own_selP (mvT hZ (ww hw 10 rfl)) (mvP hZ (ww hw 45 rfl)) (mvT hZ (ww hw 44 rfl)) (by decide)) (ww hw 45 rfl) (by decide) (ww hw 46 rfl) (ww hw 11 rfl) e0 F9 (rm7_48 l Z a0 hw [] a1 q2 a4 a6 h0 n0 Z0 F5 F7 ha8) (st := [(.long q2), (.ref a1)]) rfl 0 rfl (by decide) (pc := 2) (Ls := (lc11 a1 q2)) hml rfl (lenOf pd_0 rfl) d6_2 hby
  obtain ⟨rfl, N3q, e3⟩ := hQ3
  have N10 := Fr.app N0 N3q
  refine own_go (U' := T3.setTop (mkF m 7 (lc13 a1 q2 (q2 ^^^ (-1 : Int64))) [])) (fun t k => oaloadN X0 hx hby d6_0 rfl rfl (olloadN X0 hx hby d6_1 rfl (st3 _ (olstore X3 hx hby d6_5 (lc13 a1 q2 (q2 ^^^ (-1 : Int64))) rfl k)))) ?_
  obtain ⟨z11, hz11⟩ : ∃ z, z = (q2 ^^^ (-1 : Int64)) := ⟨_, rfl⟩
  rw [← hz11]
  obtain ⟨T13, X13, e13, st13⟩ := getF X3 hx hZ hown (host := "") (Or.inl (ww hw 32 rfl)) Via.refl e3 F12 (g := (mkF m 8 (lc13 a1 q2 z11) [(.ref a1)])) rfl rfl (hb hby d6_8)
  refine own_go (U' := T13.setTop (mkF m 21 (lc15 a1 q2 z11 2 1) [(.int 1)])) (fun t k => oaloadN X3 hx hby d6_7 rfl rfl (st13 _ (oistore X13 hx hby d6_11 (lc14 a1 q2 z11 2) rfl (oiconst X13 hx hby d6_13 (oistore X13 hx hby d6_14 (lc15 a1 q2 z11 2 1) rfl (oiload X13 hx hby d6_16 rfl (oiload X13 hx hby d6_18 rfl (oisub X13 hx hby d6_20 k)))))))) ?_
  obtain ⟨T16, X16, e16, st16⟩ := getF X13 hx hZ hown (host := "") (Or.inl (ww hw 23 rfl)) Via.refl e13 F15 (g := (mkF m 25 (lc15 a1 q2 z11 2 1) [(.ref a1)])) rfl rfl (hb hby d6_25)
  obtain ⟨cl21, Ar21, q21, S21, N21, H21, G21⟩ := id F20
  have hin22 : ¬ ((1 : Int32) < 0 ∨ cl21.slots.size ≤ ((1 : Int32)).toNatClampNeg) := inb_of S21 ⟨by decide, by decide⟩
  have hat22 : cl21.slots[((1 : Int32)).toNatClampNeg]? = some (.long q18) := Has.at H21 hin22 rfl
  refine own_go (U' := T16.setTop (mkF m 37 (lc15 a1 q2 z11 2 1) [(.int (lcmpW q18 z11))])) (fun t k => oifN X13 hx hby d6_21 (by decide) (oaloadN X13 hx hby d6_24 rfl rfl (st16 _ (oiload X16 hx hby d6_28 rfl (oiload X16 hx hby d6_30 rfl (oisub X16 hx hby d6_32 (X16.laload hx (j := (1 : Int32)) (v := (.long q18)) (by rw [e16]; exact Ar21.1) (State.isArrayOf_alike hZ.alike Ar21.2.1) Ar21.2.2 hin22 hat22 (g := (mkF m 33 (lc15 a1 q2 z11 2 1) [(.int 1), (.ref a14)])) rfl rfl (hb hby d6_33) _ (olload X16 hx hby d6_34 rfl (olcmp X16 hx hby d6_36 k))))))))) ?_
  have hs24 : ¬ (q18 < z11) := by rw [hz11]; exact hc23
  refine own_go (U' := T16.setTop (mkF m 16 (lc15 a1 q2 z11 1 2) [])) (fun t k => oifN X16 hx hby d6_37 (own_ll_lt_f hs24) (oiload X16 hx hby d6_40 rfl (oiload X16 hx hby d6_42 rfl (oisub X16 hx hby d6_44 (oistore X16 hx hby d6_45 (lc15 a1 q2 z11 1 1) rfl (oiload X16 hx hby d6_47 rfl (oiconst X16 hx hby d6_49 (oimul X16 hx hby d6_50 (oistore X16 hx hby d6_51 (lc15 a1 q2 z11 1 2) rfl (ogoto (pc := 53) X16 hx hby d6_53 16 (by decide) k)))))))))) ?_
  refine own_go (U' := T16.setTop (mkF m 21 (lc15 a1 q2 z11 1 2) [(.int ((1 : Int32) - (2 : Int32)))])) (fun t k => oiload X16 hx hby d6_16 rfl (oiload X16 hx hby d6_18 rfl (oisub X16 hx hby d6_20 k))) ?_
  rw [show ((1 : Int32) - (2 : Int32)) = (-1 : Int32) from by decide]
  refine own_go (U' := T16.setTop (mkF m 62 (lc15 a1 q2 z11 1 2) [(.int ((1 : Int32) - (2 : Int32))), (.int 0)])) (fun t k => oifY (pc := 21) X16 hx hby d6_21 56 (by decide) (by decide) (oiconst X16 hx hby d6_56 (oiload X16 hx hby d6_57 rfl (oiload X16 hx hby d6_59 rfl (oisub X16 hx hby d6_61 k))))) ?_
  rw [show ((1 : Int32) - (2 : Int32)) = (-1 : Int32) from by decide]
  refine own_go (U' := T16.setTop (mkF m 64 (lc15 a1 q2 z11 1 2) [(.int ((-1 : Int32) + (1 : Int32))), (.int 0)])) (fun t k => oiconst X16 hx hby d6_62 (oiadd X16 hx hby d6_63 k)) ?_
  rw [show ((-1 : Int32) + (1 : Int32)) = (0 : Int32) from by decide]
  obtain ⟨_, T25, L25, X25, hQ25, st25⟩ := ocallS X16 hx hZ zm4 hown (ww hw 48 rfl) (ww hw 49 rfl) (by decide) (ww hw 51 rfl) (ww hw 50 rfl) e16 (rm8_7 l Z a0 hw []  h0 n0 Z0 ) (st := [(.int 0), (.int 0)]) rfl 0 rfl (by decide) (pc := 64) (Ls := (lc15 a1 q2 z11 1 2)) hml rfl (lenOf pd_3 rfl) d6_64 hby
  obtain ⟨rfl, N25q, e25⟩ := hQ25
  have N26 := Fr.app N10 N25q
  refine own_go (U' := T25.setTop (mkF m 79 (lc18 a1 q2 z11 1 2 0 1) [(.int 1), (.int 1)])) (fun t k => st25 _ (oistore X25 hx hby d6_67 (lc17 a1 q2 z11 1 2 0) rfl (oiload X25 hx hby d6_69 rfl (oiload X25 hx hby d6_71 rfl (oisub X25 hx hby d6_73 (oistore X25 hx hby d6_74 (lc18 a1 q2 z11 1 2 0 1) rfl (oiload X25 hx hby d6_76 rfl (oiconst X25 hx hby d6_78 k)))))))) ?_
  refine own_go (U' := T25.setTop (mkF m 132 (lc18 a1 q2 z11 1 2 0 1) [(.int 1), (.int 0)])) (fun t k => oicY (pc := 79) X25 hx hby d6_79 128 (by decide) (by decide) (oiload X25 hx hby d6_128 rfl (oiload X25 hx hby d6_130 rfl k))) ?_
  obtain ⟨T27, X27, e27, st27⟩ := getF X25 hx hZ hown (host := "") (Or.inl (ww hw 23 rfl)) Via.refl e25 F15 (g := (mkF m 136 (lc18 a1 q2 z11 1 2 0 1) [(.ref a1)])) rfl rfl (hb hby d6_136)
  obtain ⟨cl28, Ar28, q28, S28, N28, H28, G28⟩ := id F20
  have hin29 : ¬ ((0 : Int32) < 0 ∨ cl28.slots.size ≤ ((0 : Int32)).toNatClampNeg) := inb_of S28 ⟨by decide, by decide⟩
  have hat29 : cl28.slots[((0 : Int32)).toNatClampNeg]? = some (.long q17) := Has.at H28 hin29 rfl
  refine own_go (U' := T27.setTop (mkF m 145 (lc18 a1 q2 z11 1 2 0 1) [(.int (lcmpW q17 z11))])) (fun t k => oicN X25 hx hby d6_132 (by decide) (oaloadN X25 hx hby d6_135 rfl rfl (st27 _ (oiload X27 hx hby d6_139 rfl (X27.laload hx (j := (0 : Int32)) (v := (.long q17)) (by rw [e27]; exact Ar28.1) (State.isArrayOf_alike hZ.alike Ar28.2.1) Ar28.2.2 hin29 hat29 (g := (mkF m 141 (lc18 a1 q2 z11 1 2 0 1) [(.int 0), (.ref a14)])) rfl rfl (hb hby d6_141) _ (olload X27 hx hby d6_142 rfl (olcmp X27 hx hby d6_144 k))))))) ?_
  have hs31 : ¬ (q17 < z11) := by rw [hz11]; exact hc30
  refine own_go (U' := T27.setTop (mkF m 157 (lc18 a1 q2 z11 1 2 0 1) [(.int (lcmpW z11 (-9223372036854775808 : Int64)))])) (fun t k => oifY (pc := 145) X27 hx hby d6_145 151 (own_ll_ge_t hs31) (by decide) (olload X27 hx hby d6_151 rfl (X27.ldc2Long hx hown (mvT hZ (ww hw 52 rfl)) (g := (mkF m 153 (lc18 a1 q2 z11 1 2 0 1) [(.long z11)])) rfl (hb hby d6_153) _ (olcmp X27 hx hby d6_156 k)))) ?_
  have hs33 : ¬ (z11 = (-9223372036854775808 : Int64)) := by rw [hz11]; exact hc32
  refine own_go (U' := T27.setTop (mkF m 166 (lc18 a1 q2 z11 1 2 0 1) [(.int (lcmpW z11 (9223372036854775807 : Int64)))])) (fun t k => oifN X27 hx hby d6_157 (own_ll_eq_f hs33) (olload X27 hx hby d6_160 rfl (X27.ldc2Long hx hown (mvT hZ (ww hw 53 rfl)) (g := (mkF m 162 (lc18 a1 q2 z11 1 2 0 1) [(.long z11)])) rfl (hb hby d6_162) _ (olcmp X27 hx hby d6_165 k)))) ?_
  have hs35 : ¬ (z11 = (9223372036854775807 : Int64)) := by rw [hz11]; exact hc34
  refine own_go (U' := T27.setTop (mkF m 178 (lc18 a1 q2 z11 1 2 0 1) [(.int 1)])) (fun t k => oifN X27 hx hby d6_166 (own_ll_eq_f hs35) (oiconst X27 hx hby d6_169 (ogoto (pc := 170) X27 hx hby d6_170 174 (by decide) (oistore X27 hx hby d6_174 (lc18 a1 q2 z11 1 2 0 1) rfl (oiload X27 hx hby d6_176 rfl k))))) ?_
  obtain ⟨T36, X36, e36, st36⟩ := getF X27 hx hZ hown (host := "") (Or.inl (ww hw 32 rfl)) Via.refl e27 F12 (g := (mkF m 230 (lc18 a1 q2 z11 1 2 0 1) [(.ref a1), (.int 0)])) rfl rfl (hb hby d6_230)
  refine own_go (U' := T36.setTop (mkF m 233 (lc18 a1 q2 z11 1 2 0 1) [(.int 2), (.int 0)])) (fun t k => oifY (pc := 178) X27 hx hby d6_178 227 (by decide) (by decide) (oiload X27 hx hby d6_227 rfl (oaloadN X27 hx hby d6_229 rfl rfl (st36 _ k)))) ?_
  obtain ⟨T37, X37, e37, st37⟩ := getF X36 hx hZ hown (host := "") (Or.inl (ww hw 23 rfl)) Via.refl e36 F15 (g := (mkF m 237 (lc18 a1 q2 z11 1 2 0 1) [(.ref a1)])) rfl rfl (hb hby d6_237)
  obtain ⟨cl38, Ar38, q38, S38, N38, H38, G38⟩ := id F20
  have hin39 : ¬ ((0 : Int32) < 0 ∨ cl38.slots.size ≤ ((0 : Int32)).toNatClampNeg) := inb_of S38 ⟨by decide, by decide⟩
  have hat39 : cl38.slots[((0 : Int32)).toNatClampNeg]? = some (.long q17) := Has.at H38 hin39 rfl
  refine own_go (U' := T37.setTop (mkF m 246 (lc18 a1 q2 z11 1 2 0 1) [(.int (lcmpW q17 z11))])) (fun t k => oicN X36 hx hby d6_233 (by decide) (oaloadN X36 hx hby d6_236 rfl rfl (st37 _ (oiload X37 hx hby d6_240 rfl (X37.laload hx (j := (0 : Int32)) (v := (.long q17)) (by rw [e37]; exact Ar38.1) (State.isArrayOf_alike hZ.alike Ar38.2.1) Ar38.2.2 hin39 hat39 (g := (mkF m 242 (lc18 a1 q2 z11 1 2 0 1) [(.int 0), (.ref a14)])) rfl rfl (hb hby d6_242) _ (olload X37 hx hby d6_243 rfl (olcmp X37 hx hby d6_245 k))))))) ?_
  have hs41 : q17 = z11 := by rw [hz11]; exact hc40
  refine own_go (U' := T37.setTop (mkF m 251 (lc18 a1 q2 z11 1 2 0 1) [(.int 1)])) (fun t k => oifN X37 hx hby d6_246 (own_ll_ne_f hs41) (oiload X37 hx hby d6_249 rfl k)) ?_
  refine own_go (U' := T37.setTop (mkF m 280 (lc19 a1 q2 z11 1 2 0 1 1) [(.int 1)])) (fun t k => oifY (pc := 251) X37 hx hby d6_251 271 (by decide) (by decide) (oiconst X37 hx hby d6_271 (ogoto (pc := 272) X37 hx hby d6_272 276 (by decide) (oistore X37 hx hby d6_276 (lc19 a1 q2 z11 1 2 0 1 1) rfl (oiload X37 hx hby d6_278 rfl k))))) ?_
  refine own_go (U' := T37.setTop (mkF m 292 (lc19 a1 q2 z11 1 2 0 1 1) [(.int 0)])) (fun t k => oifN X37 hx hby d6_280 (by decide) (oiload X37 hx hby d6_283 rfl (ogoto (pc := 285) X37 hx hby d6_285 292 (by decide) k))) ?_
  obtain ⟨fs, hr, hrun, hended, hW, hsame⟩ := X37.leave (v := some (.int 0)) (fun h => by rw [Bd.returns] at h; cases h)
  refine own_out ⟨_, _, ?_, hrun, hended, _, _, rfl, ?_, ⟨_, rfl⟩, hW, hsame.mono (by decide) (by decide)⟩
  · exact retI X37 hx Bd.returns (hb hby d6_292) hr
  · show Q6_66 Z a1 q2 a4 a6 a14 q17 q18 kc19 h0 n0 _ T37.heap _
    rw [e37]
    exact ⟨rfl, N26, rfl⟩
def Qmg6_67 (Z : State) (a1 : Addr) (q2 : Int64) (a3 : Addr) (a5 : Addr) (a10 : Addr) (q12 : Int64) (q13 : Int64) (kc14 : ClassId) (h0 : Heap) (n0 : Nat) (v : Option Value) (h : Heap) (L : List Loc) : Prop := v = some (.int 0) ∧ Fr n0 L ∧ h = h0
theorem mg6_67 (l : Launch) (Z : State) (a0 : Array Value) (hw : ∀ d ∈ tables_1, d.before a0 Z = true) (ws : List Jvm.Cond) (a1 : Addr) (q2 : Int64) (a3 : Addr) (a5 : Addr) (a10 : Addr) (q12 : Int64) (q13 : Int64) (kc14 : ClassId) (h0 : Heap) (n0 : Nat) (Z0 : n0 ≤ h0.size) (F4 : Fld Z h0 a1 zs2 "side" zs4 (.ref a3)) (F6 : Sta Z h0 zs6 "BUY" zs4 (.ref a5)) (ha7 : a3 ≠ a5) (F8 : Exa Z h0 a1 zs2) (F9 : Fld Z h0 a1 zs2 "count" "I" (.int 2)) (F11 : Fld Z h0 a1 zs2 "ranks" "[J" (.ref a10)) (F15 : Arv Z h0 a10 kc14 .long (16 : Int32) [(.long q12), (.long q13)] (.long (0 : Int64))) (hc16 : ¬ (q13 < (q2 ^^^ (-1 : Int64)))) (hc17 : ¬ (q12 < (q2 ^^^ (-1 : Int64)))) (hc18 : ¬ ((q2 ^^^ (-1 : Int64)) = (-9223372036854775808 : Int64))) (hc19 : ¬ ((q2 ^^^ (-1 : Int64)) = (9223372036854775807 : Int64))) (hc20 : q12 = (q2 ^^^ (-1 : Int64))) :
    MetFree l zm5 (head1 (Jvm.Cond.code zm5 prog_2_method_8_code 11 (some .int) :: ws) ({ frames := 1, cells := 0, slots := 0, locals := 14 } : Room)) (fun a U => a = #[(.ref a1), (.long q2), .null] ∧ Z.Warmed39 U.vm ∧ U.heap = h0) (fun _ _ _ _ _ => True) (fun _ U o U' => ∃ v L, o = .returned v ∧ Qmg6_67 Z a1 q2 a3 a5 a10 q12 q13 kc14 h0 n0 v U'.heap L ∧ FrameEnd U o U' L ({ frames := 1, cells := 0, slots := 0, locals := 14 } : Room).cells ({ frames := 1, cells := 0, slots := 0, locals := 14 } : Room).slots) := by
  exact rm6_66 l Z a0 hw ws a1 q2 a3 a5 a10 q12 q13 kc14 h0 n0 Z0 F4 F6 ha7 F8 F9 F11 F15 hc16 hc17 hc18 hc19 hc20
def Q5_68 (Z : State) (a1 : Addr) (q2 : Int64) (a4 : Addr) (a6 : Addr) (a11 : Addr) (q13 : Int64) (q14 : Int64) (kc15 : ClassId) (a23 : Addr) (a26 : Addr) (a27 : Addr) (kc28 : ClassId) (h0 : Heap) (n0 : Nat) (v : Option Value) (h : Heap) (L : List Loc) : Prop := v = some (.ref a26) ∧ Fr n0 L ∧ Keep h0 h [a1] ∧ Fld Z h a1 zs2 "side" zs4 (.ref a4) ∧ Fld Z h a1 zs2 "count" "I" (.int 2) ∧ Fld Z h a1 zs2 "ranks" "[J" (.ref a11) ∧ Fld Z h a1 zs2 "levels" zs3 (.ref a23) ∧ Fld Z h a1 zs2 "emptyLevels" "I" (.int (-1))
set_option maxRecDepth 65536 in
set_option maxHeartbeats 40000000 in
theorem rm5_68 (l : Launch) (Z : State) (a0 : Array Value) (hw : ∀ d ∈ tables_1, d.before a0 Z = true) (ws : List Jvm.Cond) (a1 : Addr) (q2 : Int64) (a4 : Addr) (a6 : Addr) (a11 : Addr) (q13 : Int64) (q14 : Int64) (kc15 : ClassId) (a23 : Addr) (a26 : Addr) (a27 : Addr) (kc28 : ClassId) (h0 : Heap) (n0 : Nat) (Z0 : n0 ≤ h0.size) (F5 : Fld Z h0 a1 zs2 "side" zs4 (.ref a4)) (F7 : Sta Z h0 zs6 "BUY" zs4 (.ref a6)) (ha8 : a4 ≠ a6) (F9 : Exa Z h0 a1 zs2) (F10 : Fld Z h0 a1 zs2 "count" "I" (.int 2)) (F12 : Fld Z h0 a1 zs2 "ranks" "[J" (.ref a11)) (F16 : Arv Z h0 a11 kc15 .long (16 : Int32) [(.long q13), (.long q14)] (.long (0 : Int64))) (hc17 : ¬ (q14 < (q2 ^^^ (-1 : Int64)))) (hc18 : ¬ (q13 < (q2 ^^^ (-1 : Int64)))) (hc19 : ¬ ((q2 ^^^ (-1 : Int64)) = (-9223372036854775808 : Int64))) (hc20 : ¬ ((q2 ^^^ (-1 : Int64)) = (9223372036854775807 : Int64))) (hc21 : q13 = (q2 ^^^ (-1 : Int64))) (F24 : Fld Z h0 a1 zs2 "levels" zs3 (.ref a23)) (F29 : Arv Z h0 a23 kc28 (.object zs1) (16 : Int32) [(.ref a26), (.ref a27)] .null) (F33 : Exa Z h0 a26 zs1) (F34 : Fld Z h0 a26 zs1 "first" zs11 .null) (F36 : Fld Z h0 a1 zs2 "emptyLevels" "I" (.int 0)) (g39 : n0 ≤ a1) (ne44 : a23 ≠ a1) :
    MetFree l zm7 (head1 (Jvm.Cond.code zm7 prog_2_method_5_code 7 (some (.object zs1)) :: ws) ({ frames := 2, cells := 0, slots := 0, locals := 36 } : Room)) (fun a U => a = #[(.ref a1), (.long q2), .null] ∧ Z.Warmed39 U.vm ∧ U.heap = h0) (fun _ _ _ _ _ => True) (fun _ U o U' => ∃ v L, o = .returned v ∧ Q5_68 Z a1 q2 a4 a6 a11 q13 q14 kc15 a23 a26 a27 kc28 h0 n0 v U'.heap L ∧ FrameEnd U o U' L ({ frames := 2, cells := 0, slots := 0, locals := 36 } : Room).cells ({ frames := 2, cells := 0, slots := 0, locals := 36 } : Room).slots) := by
  refine MetFree.of_bodySF (plainFor_of_name pn_com_example_srok_srok_engine_BookSide) hisR ?_
  intro p e s m args below meth c s₁ Bd hml0 hP hK
  obtain ⟨rfl, hZ, hh⟩ := hP
  have hx := Bd.exec
  have hby := Bd.bytes
  have hml : c.maxLocals = 7 := hml0
  have hown : s.vm.findClass zs2 = some m.cls := findClass_of_methodNamed Bd.named
  have hnm := (name_of_methodNamed Bd.named Bd.method).1
  have X0 : Stand p l e ({ frames := 2, cells := 0, slots := 0, locals := 36 } : Room) s m #[(.ref a1), (.long q2), .null] below meth c s₁ [] 0 0 := Stand.of_body Bd
  have e0 : s₁.heap = h0 := by rw [← hh, Bd.state]; rfl
  have N0 := Fr.nil n0
  refine own_pre (g' := mkF m 0 (lc10 a1 q2) []) (ef_7 m a1 q2) ?_
  obtain ⟨_, T3, L3, X3, hQ3, st3⟩ := ocallP X0 hx hZ zm5 hown (ww hw 39 rfl) (ww hw 40 rfl) (own_selP (mvT hZ (ww hw 10 rfl)) (mvP hZ (ww hw 41 rfl)) (mvT hZ (ww hw 40 rfl)) (by decide)) (ww hw 41 rfl) (by decide) (ww hw 42 rfl) (ww hw 11 rfl) e0 F9 (mg6_67 l Z a0 hw [] a1 q2 a4 a6 a11 q13 q14 kc15 h0 n0 Z0 F5 F7 ha8 F9 F10 F12 F16 hc17 hc18 hc19 hc20 hc21) (st := [.null, (.long q2), (.ref a1)]) rfl 0 rfl (by decide) (pc := 3) (Ls := (lc10 a1 q2)) hml rfl (lenOf pd_4 rfl) d5_3 hby
  obtain ⟨rfl, N3q, e3⟩ := hQ3
  have N22 := Fr.app N0 N3q
  refine own_go (U' := T3.setTop (mkF m 10 (lc20 a1 q2 0) [(.int 0)])) (fun t k => oaloadN X0 hx hby d5_0 rfl rfl (olloadN X0 hx hby d5_1 rfl (oaloadN X0 hx hby d5_2 rfl rfl (st3 _ (oistore X3 hx hby d5_6 (lc20 a1 q2 0) rfl (oiload X3 hx hby d5_8 rfl k)))))) ?_
  obtain ⟨T25, X25, e25, st25⟩ := getF X3 hx hZ hown (host := "") (Or.inl (ww hw 20 rfl)) Via.refl e3 F24 (g := (mkF m 14 (lc20 a1 q2 0) [(.ref a1)])) rfl rfl (hb hby d5_14)
  obtain ⟨cl30, Ar30, q30, S30, N30, H30, G30⟩ := id F29
  have hin31 : ¬ ((0 : Int32) < 0 ∨ cl30.slots.size ≤ ((0 : Int32)).toNatClampNeg) := inb_of S30 ⟨by decide, by decide⟩
  have hat31 : cl30.slots[((0 : Int32)).toNatClampNeg]? = some (.ref a26) := Has.at H30 hin31 rfl
  obtain ⟨_, T32, L32, X32, hQ32, st32⟩ := ocallV X25 hx hZ zm9 zm9 hown (ww hw 72 rfl) (ww hw 73 rfl) (notFace_of_selects (args := #[]) (mvT hZ (ww hw 75 rfl))) (ww hw 75 rfl) (ww hw 74 rfl) (by decide) (ww hw 76 rfl) (ww hw 59 rfl) e25 F33 (rm11_27 l Z a0 hw [] a26 h0 n0 Z0 F34) (st := [(.ref a26)]) rfl 0 rfl (by decide) (pc := 20) (Ls := (lc20 a1 q2 0)) hml rfl (lenOf pd_8 rfl) d5_20 hby
  obtain ⟨rfl, N32q, e32⟩ := hQ32
  have N35 := Fr.app N22 N32q
  refine own_go (U' := T32.setTop (mkF m 23 (lc20 a1 q2 0) [(.int 1)])) (fun t k => oifN X3 hx hby d5_10 (by decide) (oaloadN X3 hx hby d5_13 rfl rfl (st25 _ (oiload X25 hx hby d5_17 rfl (X25.aaload hx (j := (0 : Int32)) (v := (.ref a26)) (by rw [e25]; exact Ar30.1) (State.isArrayOf_alike hZ.alike Ar30.2.1) rfl Ar30.2.2 hin31 hat31 (g := (mkF m 19 (lc20 a1 q2 0) [(.int 0), (.ref a23)])) rfl rfl (hb hby d5_19) _ (st32 _ k)))))) ?_
  obtain ⟨T37, X37, e37, st37⟩ := getF X32 hx hZ hown (host := "") (Or.inl (ww hw 79 rfl)) Via.refl e32 F36 (g := (mkF m 28 (lc20 a1 q2 0) [(.ref a1), (.ref a1)])) rfl rfl (hb hby d5_28)
  refine own_go (U' := T37.setTop (mkF m 33 (lc20 a1 q2 0) [(.int ((0 : Int32) - (1 : Int32))), (.ref a1)])) (fun t k => oifN X32 hx hby d5_23 (by decide) (oaloadN X32 hx hby d5_26 rfl rfl (odup X32 hx hby d5_27 rfl (st37 _ (oiconst X37 hx hby d5_31 (oisub X37 hx hby d5_32 k)))))) ?_
  rw [show ((0 : Int32) - (1 : Int32)) = (-1 : Int32) from by decide]
  obtain ⟨T38, h38, X38, e38, W38, st38⟩ := putF X37 hx hZ hown (host := "") (Or.inl (ww hw 79 rfl)) Via.refl e37 F36 F9 (Or.inl (ww hw 80 rfl)) (ww hw 10 rfl) (ty := .int) (by decide) rfl rfl (g := (mkF m 33 (lc20 a1 q2 0) [(.int (-1)), (.ref a1)])) rfl rfl (hb hby d5_33)
  have N40 := Fr.snoc X38 N35 g39
  have f41 : Fld Z h38 a1 zs2 "emptyLevels" "I" (.int (-1)) := Fld.same W38 F36
  have f42 : Fld Z h38 a1 zs2 "levels" zs3 (.ref a23) := (Fld.other W38 F24 (Or.inr (slot_ne (Or.inl (ww hw 21 rfl)) (Or.inl (ww hw 80 rfl)) (by decide) (t := (.array (.object zs1))) (t' := .int) (by decide) (by decide))))
  obtain ⟨T43, X43, e43, st43⟩ := getF X38 hx hZ hown (host := "") (Or.inl (ww hw 20 rfl)) Via.refl e38 f42 (g := (mkF m 37 (lc20 a1 q2 0) [(.ref a1)])) rfl rfl (hb hby d5_37)
  have f45 : Arv Z h38 a23 kc28 (.object zs1) (16 : Int32) [(.ref a26), (.ref a27)] .null := (F29.other W38 ne44)
  obtain ⟨cl46, Ar46, q46, S46, N46, H46, G46⟩ := id f45
  have hin47 : ¬ ((0 : Int32) < 0 ∨ cl46.slots.size ≤ ((0 : Int32)).toNatClampNeg) := inb_of S46 ⟨by decide, by decide⟩
  have hat47 : cl46.slots[((0 : Int32)).toNatClampNeg]? = some (.ref a26) := Has.at H46 hin47 rfl
  refine own_go (U' := T43.setTop (mkF m 43 (lc20 a1 q2 0) [(.ref a26)])) (fun t k => st38 _ (oaloadN X38 hx hby d5_36 rfl rfl (st43 _ (oiload X43 hx hby d5_40 rfl (X43.aaload hx (j := (0 : Int32)) (v := (.ref a26)) (by rw [e43]; exact Ar46.1) (State.isArrayOf_alike hZ.alike Ar46.2.1) rfl Ar46.2.2 hin47 hat47 (g := (mkF m 42 (lc20 a1 q2 0) [(.int 0), (.ref a23)])) rfl rfl (hb hby d5_42) _ k))))) ?_
  have f48 : Fld Z h38 a1 zs2 "side" zs4 (.ref a4) := (Fld.other W38 F5 (Or.inr (slot_ne (Or.inr (ww hw 26 rfl)) (Or.inl (ww hw 80 rfl)) (by decide) (t := (.object zs6)) (t' := .int) (by decide) (by decide))))
  have f49 : Fld Z h38 a1 zs2 "count" "I" (.int 2) := (Fld.other W38 F10 (Or.inr (slot_ne (Or.inl (ww hw 33 rfl)) (Or.inl (ww hw 80 rfl)) (by decide) (t := .int) (t' := .int) (by decide) (by decide))))
  have f50 : Fld Z h38 a1 zs2 "ranks" "[J" (.ref a11) := (Fld.other W38 F12 (Or.inr (slot_ne (Or.inl (ww hw 24 rfl)) (Or.inl (ww hw 80 rfl)) (by decide) (t := (.array .long)) (t' := .int) (by decide) (by decide))))
  obtain ⟨fs, hr, hrun, hended, hW, hsame⟩ := X43.leave (v := some (.ref a26)) (fun h => by rw [Bd.returns] at h; cases h)
  refine own_out ⟨_, _, ?_, hrun, hended, _, _, rfl, ?_, ⟨_, rfl⟩, hW, hsame.mono (by decide) (by decide)⟩
  · exact retOut X43 hx Bd.returns rfl (Or.inr (Or.inr (Or.inr (Or.inr ⟨rfl, rfl, rfl⟩)))) (hb hby d5_43) hr
  · show Q5_68 Z a1 q2 a4 a6 a11 q13 q14 kc15 a23 a26 a27 kc28 h0 n0 _ T43.heap _
    rw [e43]
    exact ⟨rfl, N40, ((Keep.refl h0 [a1]).wr W38 (Or.inl (List.mem_of_getElem? (i := 0) rfl))), f48, f49, f50, f42, f41⟩
def Q6_69 (Z : State) (a1 : Addr) (q2 : Int64) (a4 : Addr) (a6 : Addr) (a14 : Addr) (q17 : Int64) (q18 : Int64) (kc19 : ClassId) (h0 : Heap) (n0 : Nat) (v : Option Value) (h : Heap) (L : List Loc) : Prop := v = some (.int (-1)) ∧ Fr n0 L ∧ h = h0
set_option maxRecDepth 65536 in
set_option maxHeartbeats 40000000 in
theorem rm6_69 (l : Launch) (Z : State) (a0 : Array Value) (hw : ∀ d ∈ tables_1, d.before a0 Z = true) (ws : List Jvm.Cond) (a1 : Addr) (q2 : Int64) (a4 : Addr) (a6 : Addr) (a14 : Addr) (q17 : Int64) (q18 : Int64) (kc19 : ClassId) (h0 : Heap) (n0 : Nat) (Z0 : n0 ≤ h0.size) (F5 : Fld Z h0 a1 zs2 "side" zs4 (.ref a4)) (F7 : Sta Z h0 zs6 "BUY" zs4 (.ref a6)) (ha8 : a4 ≠ a6) (F9 : Exa Z h0 a1 zs2) (F12 : Fld Z h0 a1 zs2 "count" "I" (.int 2)) (F15 : Fld Z h0 a1 zs2 "ranks" "[J" (.ref a14)) (F20 : Arv Z h0 a14 kc19 .long (16 : Int32) [(.long q17), (.long q18)] (.long (0 : Int64))) (hc23 : ¬ (q18 < (q2 ^^^ (-1 : Int64)))) (hc30 : ¬ (q17 < (q2 ^^^ (-1 : Int64)))) (hc32 : ¬ ((q2 ^^^ (-1 : Int64)) = (-9223372036854775808 : Int64))) (hc34 : ¬ ((q2 ^^^ (-1 : Int64)) = (9223372036854775807 : Int64))) (hc40 : ¬ (q17 = (q2 ^^^ (-1 : Int64)))) :
    MetFree l zm5 (head1 (Jvm.Cond.code zm5 prog_2_method_8_code 11 (some .int) :: ws) ({ frames := 1, cells := 0, slots := 0, locals := 14 } : Room)) (fun a U => a = #[(.ref a1), (.long q2), .null] ∧ Z.Warmed39 U.vm ∧ U.heap = h0) (fun _ _ _ _ _ => True) (fun _ U o U' => ∃ v L, o = .returned v ∧ Q6_69 Z a1 q2 a4 a6 a14 q17 q18 kc19 h0 n0 v U'.heap L ∧ FrameEnd U o U' L ({ frames := 1, cells := 0, slots := 0, locals := 14 } : Room).cells ({ frames := 1, cells := 0, slots := 0, locals := 14 } : Room).slots) := by
  refine MetFree.of_bodySF (plainFor_of_name pn_com_example_srok_srok_engine_BookSide) hisR ?_
  intro p e s m args below meth c s₁ Bd hml0 hP hK
  obtain ⟨rfl, hZ, hh⟩ := hP
  have hx := Bd.exec
  have hby := Bd.bytes
  have hml : c.maxLocals = 11 := hml0
  have hown : s.vm.findClass zs2 = some m.cls := findClass_of_methodNamed Bd.named
  have hnm := (name_of_methodNamed Bd.named Bd.method).1
  have X0 : Stand p l e ({ frames := 1, cells := 0, slots := 0, locals := 14 } : Room) s m #[(.ref a1), (.long q2), .null] below meth c s₁ [] 0 0 := Stand.of_body Bd
  have e0 : s₁.heap = h0 := by rw [← hh, Bd.state]; rfl
  have N0 := Fr.nil n0
  refine own_pre (g' := mkF m 0 (lc11 a1 q2) []) (ef_5 m a1 q2) ?_
  obtain ⟨_, T3, L3, X3, hQ3, st3⟩ := ocallP X0 hx hZ zm3 hown (ww hw 43 rfl) (ww hw 44 rfl) (own_selP (mvT hZ (ww hw 10 rfl)) (mvP hZ (ww hw 45 rfl)) (mvT hZ (ww hw 44 rfl)) (by decide)) (ww hw 45 rfl) (by decide) (ww hw 46 rfl) (ww hw 11 rfl) e0 F9 (rm7_48 l Z a0 hw [] a1 q2 a4 a6 h0 n0 Z0 F5 F7 ha8) (st := [(.long q2), (.ref a1)]) rfl 0 rfl (by decide) (pc := 2) (Ls := (lc11 a1 q2)) hml rfl (lenOf pd_0 rfl) d6_2 hby
  obtain ⟨rfl, N3q, e3⟩ := hQ3
  have N10 := Fr.app N0 N3q
  refine own_go (U' := T3.setTop (mkF m 7 (lc13 a1 q2 (q2 ^^^ (-1 : Int64))) [])) (fun t k => oaloadN X0 hx hby d6_0 rfl rfl (olloadN X0 hx hby d6_1 rfl (st3 _ (olstore X3 hx hby d6_5 (lc13 a1 q2 (q2 ^^^ (-1 : Int64))) rfl k)))) ?_
  obtain ⟨z11, hz11⟩ : ∃ z, z = (q2 ^^^ (-1 : Int64)) := ⟨_, rfl⟩
  rw [← hz11]
  obtain ⟨T13, X13, e13, st13⟩ := getF X3 hx hZ hown (host := "") (Or.inl (ww hw 32 rfl)) Via.refl e3 F12 (g := (mkF m 8 (lc13 a1 q2 z11) [(.ref a1)])) rfl rfl (hb hby d6_8)
  refine own_go (U' := T13.setTop (mkF m 21 (lc15 a1 q2 z11 2 1) [(.int 1)])) (fun t k => oaloadN X3 hx hby d6_7 rfl rfl (st13 _ (oistore X13 hx hby d6_11 (lc14 a1 q2 z11 2) rfl (oiconst X13 hx hby d6_13 (oistore X13 hx hby d6_14 (lc15 a1 q2 z11 2 1) rfl (oiload X13 hx hby d6_16 rfl (oiload X13 hx hby d6_18 rfl (oisub X13 hx hby d6_20 k)))))))) ?_
  obtain ⟨T16, X16, e16, st16⟩ := getF X13 hx hZ hown (host := "") (Or.inl (ww hw 23 rfl)) Via.refl e13 F15 (g := (mkF m 25 (lc15 a1 q2 z11 2 1) [(.ref a1)])) rfl rfl (hb hby d6_25)
  obtain ⟨cl21, Ar21, q21, S21, N21, H21, G21⟩ := id F20
  have hin22 : ¬ ((1 : Int32) < 0 ∨ cl21.slots.size ≤ ((1 : Int32)).toNatClampNeg) := inb_of S21 ⟨by decide, by decide⟩
  have hat22 : cl21.slots[((1 : Int32)).toNatClampNeg]? = some (.long q18) := Has.at H21 hin22 rfl
  refine own_go (U' := T16.setTop (mkF m 37 (lc15 a1 q2 z11 2 1) [(.int (lcmpW q18 z11))])) (fun t k => oifN X13 hx hby d6_21 (by decide) (oaloadN X13 hx hby d6_24 rfl rfl (st16 _ (oiload X16 hx hby d6_28 rfl (oiload X16 hx hby d6_30 rfl (oisub X16 hx hby d6_32 (X16.laload hx (j := (1 : Int32)) (v := (.long q18)) (by rw [e16]; exact Ar21.1) (State.isArrayOf_alike hZ.alike Ar21.2.1) Ar21.2.2 hin22 hat22 (g := (mkF m 33 (lc15 a1 q2 z11 2 1) [(.int 1), (.ref a14)])) rfl rfl (hb hby d6_33) _ (olload X16 hx hby d6_34 rfl (olcmp X16 hx hby d6_36 k))))))))) ?_
  have hs24 : ¬ (q18 < z11) := by rw [hz11]; exact hc23
  refine own_go (U' := T16.setTop (mkF m 16 (lc15 a1 q2 z11 1 2) [])) (fun t k => oifN X16 hx hby d6_37 (own_ll_lt_f hs24) (oiload X16 hx hby d6_40 rfl (oiload X16 hx hby d6_42 rfl (oisub X16 hx hby d6_44 (oistore X16 hx hby d6_45 (lc15 a1 q2 z11 1 1) rfl (oiload X16 hx hby d6_47 rfl (oiconst X16 hx hby d6_49 (oimul X16 hx hby d6_50 (oistore X16 hx hby d6_51 (lc15 a1 q2 z11 1 2) rfl (ogoto (pc := 53) X16 hx hby d6_53 16 (by decide) k)))))))))) ?_
  refine own_go (U' := T16.setTop (mkF m 21 (lc15 a1 q2 z11 1 2) [(.int ((1 : Int32) - (2 : Int32)))])) (fun t k => oiload X16 hx hby d6_16 rfl (oiload X16 hx hby d6_18 rfl (oisub X16 hx hby d6_20 k))) ?_
  rw [show ((1 : Int32) - (2 : Int32)) = (-1 : Int32) from by decide]
  refine own_go (U' := T16.setTop (mkF m 62 (lc15 a1 q2 z11 1 2) [(.int ((1 : Int32) - (2 : Int32))), (.int 0)])) (fun t k => oifY (pc := 21) X16 hx hby d6_21 56 (by decide) (by decide) (oiconst X16 hx hby d6_56 (oiload X16 hx hby d6_57 rfl (oiload X16 hx hby d6_59 rfl (oisub X16 hx hby d6_61 k))))) ?_
  rw [show ((1 : Int32) - (2 : Int32)) = (-1 : Int32) from by decide]
  refine own_go (U' := T16.setTop (mkF m 64 (lc15 a1 q2 z11 1 2) [(.int ((-1 : Int32) + (1 : Int32))), (.int 0)])) (fun t k => oiconst X16 hx hby d6_62 (oiadd X16 hx hby d6_63 k)) ?_
  rw [show ((-1 : Int32) + (1 : Int32)) = (0 : Int32) from by decide]
  obtain ⟨_, T25, L25, X25, hQ25, st25⟩ := ocallS X16 hx hZ zm4 hown (ww hw 48 rfl) (ww hw 49 rfl) (by decide) (ww hw 51 rfl) (ww hw 50 rfl) e16 (rm8_7 l Z a0 hw []  h0 n0 Z0 ) (st := [(.int 0), (.int 0)]) rfl 0 rfl (by decide) (pc := 64) (Ls := (lc15 a1 q2 z11 1 2)) hml rfl (lenOf pd_3 rfl) d6_64 hby
  obtain ⟨rfl, N25q, e25⟩ := hQ25
  have N26 := Fr.app N10 N25q
  refine own_go (U' := T25.setTop (mkF m 79 (lc18 a1 q2 z11 1 2 0 1) [(.int 1), (.int 1)])) (fun t k => st25 _ (oistore X25 hx hby d6_67 (lc17 a1 q2 z11 1 2 0) rfl (oiload X25 hx hby d6_69 rfl (oiload X25 hx hby d6_71 rfl (oisub X25 hx hby d6_73 (oistore X25 hx hby d6_74 (lc18 a1 q2 z11 1 2 0 1) rfl (oiload X25 hx hby d6_76 rfl (oiconst X25 hx hby d6_78 k)))))))) ?_
  refine own_go (U' := T25.setTop (mkF m 132 (lc18 a1 q2 z11 1 2 0 1) [(.int 1), (.int 0)])) (fun t k => oicY (pc := 79) X25 hx hby d6_79 128 (by decide) (by decide) (oiload X25 hx hby d6_128 rfl (oiload X25 hx hby d6_130 rfl k))) ?_
  obtain ⟨T27, X27, e27, st27⟩ := getF X25 hx hZ hown (host := "") (Or.inl (ww hw 23 rfl)) Via.refl e25 F15 (g := (mkF m 136 (lc18 a1 q2 z11 1 2 0 1) [(.ref a1)])) rfl rfl (hb hby d6_136)
  obtain ⟨cl28, Ar28, q28, S28, N28, H28, G28⟩ := id F20
  have hin29 : ¬ ((0 : Int32) < 0 ∨ cl28.slots.size ≤ ((0 : Int32)).toNatClampNeg) := inb_of S28 ⟨by decide, by decide⟩
  have hat29 : cl28.slots[((0 : Int32)).toNatClampNeg]? = some (.long q17) := Has.at H28 hin29 rfl
  refine own_go (U' := T27.setTop (mkF m 145 (lc18 a1 q2 z11 1 2 0 1) [(.int (lcmpW q17 z11))])) (fun t k => oicN X25 hx hby d6_132 (by decide) (oaloadN X25 hx hby d6_135 rfl rfl (st27 _ (oiload X27 hx hby d6_139 rfl (X27.laload hx (j := (0 : Int32)) (v := (.long q17)) (by rw [e27]; exact Ar28.1) (State.isArrayOf_alike hZ.alike Ar28.2.1) Ar28.2.2 hin29 hat29 (g := (mkF m 141 (lc18 a1 q2 z11 1 2 0 1) [(.int 0), (.ref a14)])) rfl rfl (hb hby d6_141) _ (olload X27 hx hby d6_142 rfl (olcmp X27 hx hby d6_144 k))))))) ?_
  have hs31 : ¬ (q17 < z11) := by rw [hz11]; exact hc30
  refine own_go (U' := T27.setTop (mkF m 157 (lc18 a1 q2 z11 1 2 0 1) [(.int (lcmpW z11 (-9223372036854775808 : Int64)))])) (fun t k => oifY (pc := 145) X27 hx hby d6_145 151 (own_ll_ge_t hs31) (by decide) (olload X27 hx hby d6_151 rfl (X27.ldc2Long hx hown (mvT hZ (ww hw 52 rfl)) (g := (mkF m 153 (lc18 a1 q2 z11 1 2 0 1) [(.long z11)])) rfl (hb hby d6_153) _ (olcmp X27 hx hby d6_156 k)))) ?_
  have hs33 : ¬ (z11 = (-9223372036854775808 : Int64)) := by rw [hz11]; exact hc32
  refine own_go (U' := T27.setTop (mkF m 166 (lc18 a1 q2 z11 1 2 0 1) [(.int (lcmpW z11 (9223372036854775807 : Int64)))])) (fun t k => oifN X27 hx hby d6_157 (own_ll_eq_f hs33) (olload X27 hx hby d6_160 rfl (X27.ldc2Long hx hown (mvT hZ (ww hw 53 rfl)) (g := (mkF m 162 (lc18 a1 q2 z11 1 2 0 1) [(.long z11)])) rfl (hb hby d6_162) _ (olcmp X27 hx hby d6_165 k)))) ?_
  have hs35 : ¬ (z11 = (9223372036854775807 : Int64)) := by rw [hz11]; exact hc34
  refine own_go (U' := T27.setTop (mkF m 178 (lc18 a1 q2 z11 1 2 0 1) [(.int 1)])) (fun t k => oifN X27 hx hby d6_166 (own_ll_eq_f hs35) (oiconst X27 hx hby d6_169 (ogoto (pc := 170) X27 hx hby d6_170 174 (by decide) (oistore X27 hx hby d6_174 (lc18 a1 q2 z11 1 2 0 1) rfl (oiload X27 hx hby d6_176 rfl k))))) ?_
  obtain ⟨T36, X36, e36, st36⟩ := getF X27 hx hZ hown (host := "") (Or.inl (ww hw 32 rfl)) Via.refl e27 F12 (g := (mkF m 230 (lc18 a1 q2 z11 1 2 0 1) [(.ref a1), (.int 0)])) rfl rfl (hb hby d6_230)
  refine own_go (U' := T36.setTop (mkF m 233 (lc18 a1 q2 z11 1 2 0 1) [(.int 2), (.int 0)])) (fun t k => oifY (pc := 178) X27 hx hby d6_178 227 (by decide) (by decide) (oiload X27 hx hby d6_227 rfl (oaloadN X27 hx hby d6_229 rfl rfl (st36 _ k)))) ?_
  obtain ⟨T37, X37, e37, st37⟩ := getF X36 hx hZ hown (host := "") (Or.inl (ww hw 23 rfl)) Via.refl e36 F15 (g := (mkF m 237 (lc18 a1 q2 z11 1 2 0 1) [(.ref a1)])) rfl rfl (hb hby d6_237)
  obtain ⟨cl38, Ar38, q38, S38, N38, H38, G38⟩ := id F20
  have hin39 : ¬ ((0 : Int32) < 0 ∨ cl38.slots.size ≤ ((0 : Int32)).toNatClampNeg) := inb_of S38 ⟨by decide, by decide⟩
  have hat39 : cl38.slots[((0 : Int32)).toNatClampNeg]? = some (.long q17) := Has.at H38 hin39 rfl
  refine own_go (U' := T37.setTop (mkF m 246 (lc18 a1 q2 z11 1 2 0 1) [(.int (lcmpW q17 z11))])) (fun t k => oicN X36 hx hby d6_233 (by decide) (oaloadN X36 hx hby d6_236 rfl rfl (st37 _ (oiload X37 hx hby d6_240 rfl (X37.laload hx (j := (0 : Int32)) (v := (.long q17)) (by rw [e37]; exact Ar38.1) (State.isArrayOf_alike hZ.alike Ar38.2.1) Ar38.2.2 hin39 hat39 (g := (mkF m 242 (lc18 a1 q2 z11 1 2 0 1) [(.int 0), (.ref a14)])) rfl rfl (hb hby d6_242) _ (olload X37 hx hby d6_243 rfl (olcmp X37 hx hby d6_245 k))))))) ?_
  have hs41 : ¬ (q17 = z11) := by rw [hz11]; exact hc40
  refine own_go (U' := T37.setTop (mkF m 280 (lc19 a1 q2 z11 1 2 0 1 0) [(.int 0)])) (fun t k => oifY (pc := 246) X37 hx hby d6_246 275 (own_ll_ne_t hs41) (by decide) (oiconst X37 hx hby d6_275 (oistore X37 hx hby d6_276 (lc19 a1 q2 z11 1 2 0 1 0) rfl (oiload X37 hx hby d6_278 rfl k)))) ?_
  refine own_go (U' := T37.setTop (mkF m 292 (lc19 a1 q2 z11 1 2 0 1 0) [(.int ((-1 : Int32) - (0 : Int32)))])) (fun t k => oifY (pc := 280) X37 hx hby d6_280 288 (by decide) (by decide) (oiconst X37 hx hby d6_288 (oiload X37 hx hby d6_289 rfl (oisub X37 hx hby d6_291 k)))) ?_
  rw [show ((-1 : Int32) - (0 : Int32)) = (-1 : Int32) from by decide]
  obtain ⟨fs, hr, hrun, hended, hW, hsame⟩ := X37.leave (v := some (.int (-1))) (fun h => by rw [Bd.returns] at h; cases h)
  refine own_out ⟨_, _, ?_, hrun, hended, _, _, rfl, ?_, ⟨_, rfl⟩, hW, hsame.mono (by decide) (by decide)⟩
  · exact retI X37 hx Bd.returns (hb hby d6_292) hr
  · show Q6_69 Z a1 q2 a4 a6 a14 q17 q18 kc19 h0 n0 _ T37.heap _
    rw [e37]
    exact ⟨rfl, N26, rfl⟩
def Qmg6_70 (Z : State) (a1 : Addr) (q2 : Int64) (a3 : Addr) (a5 : Addr) (a10 : Addr) (q12 : Int64) (q13 : Int64) (kc14 : ClassId) (h0 : Heap) (n0 : Nat) (v : Option Value) (h : Heap) (L : List Loc) : Prop := v = some (.int (-1)) ∧ Fr n0 L ∧ h = h0
theorem mg6_70 (l : Launch) (Z : State) (a0 : Array Value) (hw : ∀ d ∈ tables_1, d.before a0 Z = true) (ws : List Jvm.Cond) (a1 : Addr) (q2 : Int64) (a3 : Addr) (a5 : Addr) (a10 : Addr) (q12 : Int64) (q13 : Int64) (kc14 : ClassId) (h0 : Heap) (n0 : Nat) (Z0 : n0 ≤ h0.size) (F4 : Fld Z h0 a1 zs2 "side" zs4 (.ref a3)) (F6 : Sta Z h0 zs6 "BUY" zs4 (.ref a5)) (ha7 : a3 ≠ a5) (F8 : Exa Z h0 a1 zs2) (F9 : Fld Z h0 a1 zs2 "count" "I" (.int 2)) (F11 : Fld Z h0 a1 zs2 "ranks" "[J" (.ref a10)) (F15 : Arv Z h0 a10 kc14 .long (16 : Int32) [(.long q12), (.long q13)] (.long (0 : Int64))) (hc16 : ¬ (q13 < (q2 ^^^ (-1 : Int64)))) (hc17 : ¬ (q12 < (q2 ^^^ (-1 : Int64)))) (hc18 : ¬ ((q2 ^^^ (-1 : Int64)) = (-9223372036854775808 : Int64))) (hc19 : ¬ ((q2 ^^^ (-1 : Int64)) = (9223372036854775807 : Int64))) (hc20 : ¬ (q12 = (q2 ^^^ (-1 : Int64)))) :
    MetFree l zm5 (head1 (Jvm.Cond.code zm5 prog_2_method_8_code 11 (some .int) :: ws) ({ frames := 1, cells := 0, slots := 0, locals := 14 } : Room)) (fun a U => a = #[(.ref a1), (.long q2), .null] ∧ Z.Warmed39 U.vm ∧ U.heap = h0) (fun _ _ _ _ _ => True) (fun _ U o U' => ∃ v L, o = .returned v ∧ Qmg6_70 Z a1 q2 a3 a5 a10 q12 q13 kc14 h0 n0 v U'.heap L ∧ FrameEnd U o U' L ({ frames := 1, cells := 0, slots := 0, locals := 14 } : Room).cells ({ frames := 1, cells := 0, slots := 0, locals := 14 } : Room).slots) := by
  exact rm6_69 l Z a0 hw ws a1 q2 a3 a5 a10 q12 q13 kc14 h0 n0 Z0 F4 F6 ha7 F8 F9 F11 F15 hc16 hc17 hc18 hc19 hc20
def Q5_71 (Z : State) (a1 : Addr) (q2 : Int64) (a4 : Addr) (a6 : Addr) (a11 : Addr) (q13 : Int64) (q14 : Int64) (kc15 : ClassId) (a24 : Addr) (a27 : Addr) (a28 : Addr) (kc29 : ClassId) (h0 : Heap) (n0 : Nat) (v : Option Value) (h : Heap) (L : List Loc) : Prop := ∃ b54 : Addr, v = some (.ref b54) ∧ Fr n0 L ∧ Keep h0 h [a24, a11, a1] ∧ h0.size ≤ b54 ∧ Arv Z h a24 kc29 (.object zs1) (16 : Int32) [(.ref b54), (.ref a27), (.ref a28)] .null ∧ Arv Z h a11 kc15 .long (16 : Int32) [(.long (q2 ^^^ (-1 : Int64))), (.long q13), (.long q14)] (.long (0 : Int64)) ∧ Fld Z h a1 zs2 "side" zs4 (.ref a4) ∧ Fld Z h a1 zs2 "count" "I" (.int 3) ∧ Fld Z h a1 zs2 "ranks" "[J" (.ref a11) ∧ Fld Z h a1 zs2 "levels" zs3 (.ref a24) ∧ Fld Z h a1 zs2 "emptyLevels" "I" (.int 0) ∧ Exa Z h b54 zs1 ∧ Fld Z h b54 zs1 "price" zs10 .null ∧ Fld Z h b54 zs1 "priceSteps" "J" (.long q2) ∧ Fld Z h b54 zs1 "first" zs11 .null
set_option maxRecDepth 65536 in
set_option maxHeartbeats 40000000 in
theorem rm5_71 (l : Launch) (Z : State) (a0 : Array Value) (hw : ∀ d ∈ tables_1, d.before a0 Z = true) (ws : List Jvm.Cond) (a1 : Addr) (q2 : Int64) (a4 : Addr) (a6 : Addr) (a11 : Addr) (q13 : Int64) (q14 : Int64) (kc15 : ClassId) (a24 : Addr) (a27 : Addr) (a28 : Addr) (kc29 : ClassId) (h0 : Heap) (n0 : Nat) (Z0 : n0 ≤ h0.size) (F5 : Fld Z h0 a1 zs2 "side" zs4 (.ref a4)) (F7 : Sta Z h0 zs6 "BUY" zs4 (.ref a6)) (ha8 : a4 ≠ a6) (F9 : Exa Z h0 a1 zs2) (F10 : Fld Z h0 a1 zs2 "count" "I" (.int 2)) (F12 : Fld Z h0 a1 zs2 "ranks" "[J" (.ref a11)) (F16 : Arv Z h0 a11 kc15 .long (16 : Int32) [(.long q13), (.long q14)] (.long (0 : Int64))) (hc17 : ¬ (q14 < (q2 ^^^ (-1 : Int64)))) (hc18 : ¬ (q13 < (q2 ^^^ (-1 : Int64)))) (hc19 : ¬ ((q2 ^^^ (-1 : Int64)) = (-9223372036854775808 : Int64))) (hc20 : ¬ ((q2 ^^^ (-1 : Int64)) = (9223372036854775807 : Int64))) (hc21 : ¬ (q13 = (q2 ^^^ (-1 : Int64)))) (F25 : Fld Z h0 a1 zs2 "levels" zs3 (.ref a24)) (F30 : Arv Z h0 a24 kc29 (.object zs1) (16 : Int32) [(.ref a27), (.ref a28)] .null) (g37 : n0 ≤ a24) (O38 : Ovr Z kc29 zs1) (F39 : Exa Z h0 a28 zs1) (F40 : Exa Z h0 a27 zs1) (ne42 : a1 ≠ a24) (ne49 : a11 ≠ a24) (g52 : n0 ≤ a11) (ne64 : a1 ≠ a11) (F90 : Fld Z h0 a1 zs2 "emptyLevels" "I" (.int 0)) (g93 : n0 ≤ a1) :
    MetFree l zm7 (head1 (Jvm.Cond.code zm7 prog_2_method_5_code 7 (some (.object zs1)) :: ws) ({ frames := 2, cells := 1, slots := 4, locals := 36 } : Room)) (fun a U => a = #[(.ref a1), (.long q2), .null] ∧ Z.Warmed39 U.vm ∧ U.heap = h0) (fun _ _ _ _ _ => True) (fun _ U o U' => ∃ v L, o = .returned v ∧ Q5_71 Z a1 q2 a4 a6 a11 q13 q14 kc15 a24 a27 a28 kc29 h0 n0 v U'.heap L ∧ FrameEnd U o U' L ({ frames := 2, cells := 1, slots := 4, locals := 36 } : Room).cells ({ frames := 2, cells := 1, slots := 4, locals := 36 } : Room).slots) := by
  refine MetFree.of_bodySF (plainFor_of_name pn_com_example_srok_srok_engine_BookSide) hisR ?_
  intro p e s m args below meth c s₁ Bd hml0 hP hK
  obtain ⟨rfl, hZ, hh⟩ := hP
  have hx := Bd.exec
  have hby := Bd.bytes
  have hml : c.maxLocals = 7 := hml0
  have hown : s.vm.findClass zs2 = some m.cls := findClass_of_methodNamed Bd.named
  have hnm := (name_of_methodNamed Bd.named Bd.method).1
  have X0 : Stand p l e ({ frames := 2, cells := 1, slots := 4, locals := 36 } : Room) s m #[(.ref a1), (.long q2), .null] below meth c s₁ [] 0 0 := Stand.of_body Bd
  have e0 : s₁.heap = h0 := by rw [← hh, Bd.state]; rfl
  have N0 := Fr.nil n0
  refine own_pre (g' := mkF m 0 (lc10 a1 q2) []) (ef_7 m a1 q2) ?_
  obtain ⟨_, T3, L3, X3, hQ3, st3⟩ := ocallP X0 hx hZ zm5 hown (ww hw 39 rfl) (ww hw 40 rfl) (own_selP (mvT hZ (ww hw 10 rfl)) (mvP hZ (ww hw 41 rfl)) (mvT hZ (ww hw 40 rfl)) (by decide)) (ww hw 41 rfl) (by decide) (ww hw 42 rfl) (ww hw 11 rfl) e0 F9 (mg6_70 l Z a0 hw [] a1 q2 a4 a6 a11 q13 q14 kc15 h0 n0 Z0 F5 F7 ha8 F9 F10 F12 F16 hc17 hc18 hc19 hc20 hc21) (st := [.null, (.long q2), (.ref a1)]) rfl 0 rfl (by decide) (pc := 3) (Ls := (lc10 a1 q2)) hml rfl (lenOf pd_4 rfl) d5_3 hby
  obtain ⟨rfl, N3q, e3⟩ := hQ3
  have N22 := Fr.app N0 N3q
  refine own_go (U' := T3.setTop (mkF m 10 (lc20 a1 q2 (-1)) [(.int (-1))])) (fun t k => oaloadN X0 hx hby d5_0 rfl rfl (olloadN X0 hx hby d5_1 rfl (oaloadN X0 hx hby d5_2 rfl rfl (st3 _ (oistore X3 hx hby d5_6 (lc20 a1 q2 (-1)) rfl (oiload X3 hx hby d5_8 rfl k)))))) ?_
  refine own_go (U' := T3.setTop (mkF m 47 (lc20 a1 q2 (-1)) [(.int (-(-1 : Int32)))])) (fun t k => oifY (pc := 10) X3 hx hby d5_10 44 (by decide) (by decide) (oiload X3 hx hby d5_44 rfl (oineg X3 hx hby d5_46 k))) ?_
  rw [show (-(-1 : Int32)) = (1 : Int32) from by decide]
  obtain ⟨T23, X23, e23, st23⟩ := getF X3 hx hZ hown (host := "") (Or.inl (ww hw 32 rfl)) Via.refl e3 F10 (g := (mkF m 52 (lc21 a1 q2 (-1) 0) [(.ref a1)])) rfl rfl (hb hby d5_52)
  obtain ⟨T26, X26, e26, st26⟩ := getF X23 hx hZ hown (host := "") (Or.inl (ww hw 20 rfl)) Via.refl e23 F25 (g := (mkF m 56 (lc21 a1 q2 (-1) 0) [(.ref a1), (.int 2)])) rfl rfl (hb hby d5_56)
  refine own_go (U' := T26.setTop (mkF m 59 (lc21 a1 q2 (-1) 0) [(.ref a24), (.int 2)])) (fun t k => oiconst X3 hx hby d5_47 (oisub X3 hx hby d5_48 (oistore X3 hx hby d5_49 (lc21 a1 q2 (-1) 0) rfl (oaloadN X3 hx hby d5_51 rfl rfl (st23 _ (oaloadN X23 hx hby d5_55 rfl rfl (st26 _ k))))))) ?_
  obtain ⟨cl31, Ar31, q31, S31, N31, H31, G31⟩ := id F30
  refine own_go (fun t k => X26.arraylength hx (by rw [e26]; exact Ar31.1) (State.isArrayOf_alike hZ.alike Ar31.2.1) (g := (mkF m 59 (lc21 a1 q2 (-1) 0) [(.ref a24), (.int 2)])) rfl rfl (hb hby d5_59) _ k) ?_
  rw [len_of S31 N31]
  obtain ⟨T32, X32, e32, st32⟩ := getF X26 hx hZ hown (host := "") (Or.inl (ww hw 20 rfl)) Via.refl e26 F25 (g := (mkF m 101 (lc21 a1 q2 (-1) 0) [(.ref a1)])) rfl rfl (hb hby d5_101)
  obtain ⟨T33, X33, e33, st33⟩ := getF X32 hx hZ hown (host := "") (Or.inl (ww hw 20 rfl)) Via.refl e32 F25 (g := (mkF m 107 (lc21 a1 q2 (-1) 0) [(.ref a1), (.int 0), (.ref a24)])) rfl rfl (hb hby d5_107)
  obtain ⟨T34, X34, e34, st34⟩ := getF X33 hx hZ hown (host := "") (Or.inl (ww hw 32 rfl)) Via.refl e33 F10 (g := (mkF m 115 (lc21 a1 q2 (-1) 0) [(.ref a1), (.int 1), (.ref a24), (.int 0), (.ref a24)])) rfl rfl (hb hby d5_115)
  have f36 : Arv Z h0 a24 kc29 (.object zs1) (16 : Int32) [(.ref a27), (.ref a28), .null] .null := F30.pad (pad_rep [(.ref a27), (.ref a28)] .null 1)
  obtain ⟨cl35, Ar35, q35, -⟩ := id f36
  obtain ⟨T35, h35, L35, X35, e35, N35, K35, V35, st35⟩ := cpA X34 hx hZ hown (ww hw 54 rfl) (ww hw 57 rfl) (ww hw 55 rfl) (ww hw 56 rfl) e34 (us := [(.ref a27), (.ref a28)]) f36 f36 (Or.inr ⟨rfl, rfl, ⟨(Sto.ofV Ar35 q35 O38 (Ins.self F40)), ⟨(Sto.ofV Ar35 q35 O38 (Ins.self F39)), trivial⟩⟩⟩) (by decide) (by decide) (by decide) (by decide) (by decide) rfl (Nat.le_of_ble_eq_true rfl) N22 g37 (g := (mkF m 121 (lc21 a1 q2 (-1) 0) [(.int 2), (.int 1), (.ref a24), (.int 0), (.ref a24)])) rfl (by rw [hml]; rfl) rfl (hb hby d5_121) (by decide) (W := 0) (by show 2 * 0 + _ ≤ _; exact Nat.le_of_eq rfl) (by decide)
  have f41 : Arv Z h35 a24 kc29 (.object zs1) (16 : Int32) [(.ref a27), (.ref a27), (.ref a28)] .null := V35
  have f43 : Fld Z h35 a1 zs2 "ranks" "[J" (.ref a11) := (F12.keep K35 (ninS ne42 nin0))
  obtain ⟨T44, X44, e44, st44⟩ := getF X35 hx hZ hown (host := "") (Or.inl (ww hw 23 rfl)) Via.refl e35 f43 (g := (mkF m 125 (lc21 a1 q2 (-1) 0) [(.ref a1)])) rfl rfl (hb hby d5_125)
  obtain ⟨T45, X45, e45, st45⟩ := getF X44 hx hZ hown (host := "") (Or.inl (ww hw 23 rfl)) Via.refl e44 f43 (g := (mkF m 131 (lc21 a1 q2 (-1) 0) [(.ref a1), (.int 0), (.ref a11)])) rfl rfl (hb hby d5_131)
  have f46 : Fld Z h35 a1 zs2 "count" "I" (.int 2) := (F10.keep K35 (ninS ne42 nin0))
  obtain ⟨T47, X47, e47, st47⟩ := getF X45 hx hZ hown (host := "") (Or.inl (ww hw 32 rfl)) Via.refl e45 f46 (g := (mkF m 139 (lc21 a1 q2 (-1) 0) [(.ref a1), (.int 1), (.ref a11), (.int 0), (.ref a11)])) rfl rfl (hb hby d5_139)
  have f50 : Arv Z h35 a11 kc15 .long (16 : Int32) [(.long q13), (.long q14)] (.long (0 : Int64)) := (F16.keep K35 (ninS ne49 nin0))
  have f51 : Arv Z h35 a11 kc15 .long (16 : Int32) [(.long q13), (.long q14), (.long 0)] (.long (0 : Int64)) := f50.pad (pad_rep [(.long q13), (.long q14)] (.long (0 : Int64)) 1)
  obtain ⟨T48, h48, L48, X48, e48, N48, K48, V48, st48⟩ := cpA X47 hx hZ hown (ww hw 54 rfl) (ww hw 57 rfl) (ww hw 55 rfl) (ww hw 56 rfl) e47 (us := [(.long q13), (.long q14)]) f51 f51 (Or.inl ⟨rfl, rfl⟩) (by decide) (by decide) (by decide) (by decide) (by decide) rfl (Nat.le_of_ble_eq_true rfl) N35 g52 (g := (mkF m 145 (lc21 a1 q2 (-1) 0) [(.int 2), (.int 1), (.ref a11), (.int 0), (.ref a11)])) rfl (by rw [hml]; rfl) rfl (hb hby d5_145) (by decide) (W := 0) (by show 2 * 0 + _ ≤ _; exact Nat.le_of_eq rfl) (by decide)
  have f53 : Arv Z h48 a11 kc15 .long (16 : Int32) [(.long q13), (.long q13), (.long q14)] (.long (0 : Int64)) := V48
  obtain ⟨T54, h54, X54, e54, E54, A54, D54, -, st54⟩ := newO X48 hx hZ hown (ww hw 18 rfl) (ww hw 58 rfl) (ww hw 59 rfl) e48 (g := (mkF m 148 (lc21 a1 q2 (-1) 0) [])) rfl (hb hby d5_148) (by decide) (by decide)
  obtain ⟨b54, g54⟩ : ∃ z, z = h48.size := ⟨_, rfl⟩
  rw [← g54] at A54 D54 st54
  have f55 : Fld Z h54 b54 zs1 "price" zs10 .null := D54 (Or.inr (ww hw 65 rfl)) (ty := (.object zs13)) (by decide)
  have f56 : Fld Z h54 b54 zs1 "priceSteps" "J" (.long 0) := D54 (Or.inr (ww hw 67 rfl)) (ty := .long) (by decide)
  have f57 : Fld Z h54 b54 zs1 "first" zs11 .null := D54 (Or.inl (ww hw 78 rfl)) (ty := (.object zs14)) (by decide)
  have Z_1 : n0 ≤ h35.size := Nat.le_trans Z0 K35.1
  have Z_2 : n0 ≤ h48.size := Nat.le_trans Z_1 K48.1
  have g59 : n0 ≤ b54 := Nat.le_trans Z_2 (Nat.le_of_eq g54.symm)
  have Z_3 : n0 ≤ h54.size := Nat.le_trans Z_2 E54.1
  obtain ⟨_, T58, L58, X58, hQ58, st58⟩ := ocallI X54 hx hZ zm6 rfl hown (ww hw 60 rfl) (ww hw 61 rfl) (by decide) (ww hw 62 rfl) (ww hw 59 rfl) e54 (rm9_10 l Z a0 hw [] b54 q2 h54 n0 Z_3 f55 f56 f57 A54 g59) (st := [(.long q2), .null, (.ref b54), (.ref b54)]) rfl 1 rfl (by decide) (pc := 154) (Ls := (lc21 a1 q2 (-1) 0)) hml rfl (lenOf pd_5 rfl) d5_154 hby
  obtain ⟨rfl, N58q, K58, f60, f61, f62⟩ := hQ58
  have N63 := Fr.app N48 N58q
  have ne65 : a1 ≠ b54 := Nat.ne_of_lt (Nat.lt_of_lt_of_le (Nat.lt_of_lt_of_le (Nat.lt_of_lt_of_le (F5.lt) K35.1) K48.1) (Nat.le_of_eq g54.symm))
  have f66 : Fld Z T58.heap a1 zs2 "levels" zs3 (.ref a24) := ((Fld.ext E54 ((F25.keep K35 (ninS ne42 nin0)).keep K48 (ninS ne64 nin0))).keep K58 (ninS ne65 nin0))
  obtain ⟨T67, X67, e67, st67⟩ := getF X58 hx hZ hown (host := "") (Or.inl (ww hw 20 rfl)) Via.refl rfl f66 (g := (mkF m 160 (lc23 a1 q2 (-1) 0 b54) [(.ref a1)])) rfl rfl (hb hby d5_160)
  have ne68 : a24 ≠ b54 := Nat.ne_of_lt (Nat.lt_of_lt_of_le (Nat.lt_of_lt_of_le (f41.lt) K48.1) (Nat.le_of_eq g54.symm))
  have f69 : Arv Z T58.heap a24 kc29 (.object zs1) (16 : Int32) [(.ref a27), (.ref a27), (.ref a28)] .null := (((f41.keep K48 (ninS (Ne.symm ne49) nin0)).ext E54).keep K58 (ninS ne68 nin0))
  have f70 : Exa Z T58.heap b54 zs1 := (A54.keep K58)
  obtain ⟨cl71, Ar71, q71, S71, N71, H71, G71⟩ := id f69
  have hin72 : ¬ ((0 : Int32) < 0 ∨ cl71.slots.size ≤ ((0 : Int32)).toNatClampNeg) := inb_of S71 ⟨by decide, by decide⟩
  obtain ⟨T72, h72, X72, e72, W72, st72⟩ := stR X67 hx hZ e67 Ar71 (j := (0 : Int32)) hin72 rfl (Sto.ofV Ar71 q71 O38 (Ins.self f70)) (g := (mkF m 167 (lc23 a1 q2 (-1) 0 b54) [(.ref b54), (.int 0), (.ref a24)])) rfl rfl (hb hby d5_167)
  have N73 := Fr.snoc X72 N63 g37
  have f74 : Arv Z h72 a24 kc29 (.object zs1) (16 : Int32) [(.ref b54), (.ref a27), (.ref a28)] .null := Arv.set Ar71 q71 S71 N71 H71 G71 (by rfl) W72 0 rfl (Nat.le_of_ble_eq_true rfl)
  have f75 : Fld Z h72 a1 zs2 "ranks" "[J" (.ref a11) := (Fld.other W72 ((Fld.ext E54 (f43.keep K48 (ninS ne64 nin0))).keep K58 (ninS ne65 nin0)) (Or.inl ne42))
  obtain ⟨T76, X76, e76, st76⟩ := getF X72 hx hZ hown (host := "") (Or.inl (ww hw 23 rfl)) Via.refl e72 f75 (g := (mkF m 169 (lc23 a1 q2 (-1) 0 b54) [(.ref a1)])) rfl rfl (hb hby d5_169)
  have f78 : Fld Z h72 a1 zs2 "side" zs4 (.ref a4) := (Fld.other W72 ((Fld.ext E54 ((F5.keep K35 (ninS ne42 nin0)).keep K48 (ninS ne64 nin0))).keep K58 (ninS ne65 nin0)) (Or.inl ne42))
  have f79 : Sta Z h72 zs6 "BUY" zs4 (.ref a6) := (Sta.wr W72 (own_staK (Sta.ext E54 (own_staK (own_staK F7 K35 (allS (own_nsV f36) all0)) K48 (allS (own_nsV f51) all0))) K58 (allS (own_nsF f55) all0)))
  have Z_4 : n0 ≤ T58.heap.size := Nat.le_trans Z_3 K58.1
  have Z_5 : n0 ≤ h72.size := Nat.le_trans Z_4 (Keep.of_wr W72).1
  have f80 : Exa Z h72 a1 zs2 := (Exa.wr W72 ((Exa.ext E54 ((F9.keep K35).keep K48)).keep K58))
  obtain ⟨_, T77, L77, X77, hQ77, st77⟩ := ocallP X76 hx hZ zm3 hown (ww hw 43 rfl) (ww hw 44 rfl) (own_selP (mvT hZ (ww hw 10 rfl)) (mvP hZ (ww hw 45 rfl)) (mvT hZ (ww hw 44 rfl)) (by decide)) (ww hw 45 rfl) (by decide) (ww hw 46 rfl) (ww hw 11 rfl) e76 f80 (rm7_48 l Z a0 hw [] a1 q2 a4 a6 h72 n0 Z_5 f78 f79 ha8) (st := [(.long q2), (.ref a1), (.int 0), (.ref a11)]) rfl 2 rfl (by decide) (pc := 176) (Ls := (lc23 a1 q2 (-1) 0 b54)) hml rfl (lenOf pd_0 rfl) d5_176 hby
  obtain ⟨rfl, N77q, e77⟩ := hQ77
  have N81 := Fr.app N73 N77q
  have ne82 : a11 ≠ b54 := Nat.ne_of_lt (Nat.lt_of_lt_of_le (f53.lt) (Nat.le_of_eq g54.symm))
  have f83 : Arv Z h72 a11 kc15 .long (16 : Int32) [(.long q13), (.long q13), (.long q14)] (.long (0 : Int64)) := (((f53.ext E54).keep K58 (ninS ne82 nin0)).other W72 ne49)
  obtain ⟨cl84, Ar84, q84, S84, N84, H84, G84⟩ := id f83
  have hin85 : ¬ ((0 : Int32) < 0 ∨ cl84.slots.size ≤ ((0 : Int32)).toNatClampNeg) := inb_of S84 ⟨by decide, by decide⟩
  obtain ⟨T85, h85, X85, e85, W85, st85⟩ := stJ X77 hx hZ e77 Ar84 (j := (0 : Int32)) hin85 (g := (mkF m 179 (lc23 a1 q2 (-1) 0 b54) [(.long (q2 ^^^ (-1 : Int64))), (.int 0), (.ref a11)])) rfl rfl (hb hby d5_179)
  have N86 := Fr.snoc X85 N81 g52
  have f87 : Arv Z h85 a11 kc15 .long (16 : Int32) [(.long (q2 ^^^ (-1 : Int64))), (.long q13), (.long q14)] (.long (0 : Int64)) := Arv.set Ar84 q84 S84 N84 H84 G84 (by rfl) W85 0 rfl (Nat.le_of_ble_eq_true rfl)
  have f88 : Fld Z h85 a1 zs2 "count" "I" (.int 2) := (Fld.other W85 (Fld.other W72 ((Fld.ext E54 (f46.keep K48 (ninS ne64 nin0))).keep K58 (ninS ne65 nin0)) (Or.inl ne42)) (Or.inl ne64))
  obtain ⟨T89, X89, e89, st89⟩ := getF X85 hx hZ hown (host := "") (Or.inl (ww hw 32 rfl)) Via.refl e85 f88 (g := (mkF m 182 (lc23 a1 q2 (-1) 0 b54) [(.ref a1), (.ref a1)])) rfl rfl (hb hby d5_182)
  have f91 : Exa Z h85 a1 zs2 := (Exa.wr W85 f80)
  obtain ⟨T92, h92, X92, e92, W92, st92⟩ := putF X89 hx hZ hown (host := "") (Or.inl (ww hw 32 rfl)) Via.refl e89 f88 f91 (Or.inl (ww hw 33 rfl)) (ww hw 10 rfl) (ty := .int) (by decide) rfl rfl (g := (mkF m 187 (lc23 a1 q2 (-1) 0 b54) [(.int 3), (.ref a1)])) rfl rfl (hb hby d5_187)
  have N94 := Fr.snoc X92 N86 g93
  have f95 : Fld Z h92 a1 zs2 "count" "I" (.int 3) := Fld.same W92 f88
  refine own_go (U' := T92.setTop (mkF m 192 (lc23 a1 q2 (-1) 0 b54) [(.ref b54)])) (fun t k => oicY (pc := 60) X26 hx hby d5_60 100 (by decide) (by decide) (oaloadN X26 hx hby d5_100 rfl rfl (st32 _ (oiload X32 hx hby d5_104 rfl (oaloadN X32 hx hby d5_106 rfl rfl (st33 _ (oiload X33 hx hby d5_110 rfl (oiconst X33 hx hby d5_112 (oiadd X33 hx hby d5_113 (oaloadN X33 hx hby d5_114 rfl rfl (st34 _ (oiload X34 hx hby d5_118 rfl (oisub X34 hx hby d5_120 (st35 _ (oaloadN X35 hx hby d5_124 rfl rfl (st44 _ (oiload X44 hx hby d5_128 rfl (oaloadN X44 hx hby d5_130 rfl rfl (st45 _ (oiload X45 hx hby d5_134 rfl (oiconst X45 hx hby d5_136 (oiadd X45 hx hby d5_137 (oaloadN X45 hx hby d5_138 rfl rfl (st47 _ (oiload X47 hx hby d5_142 rfl (oisub X47 hx hby d5_144 (st48 _ (st54 _ (odup X54 hx hby d5_151 rfl (oaloadN X54 hx hby d5_152 rfl rfl (olloadN X54 hx hby d5_153 rfl (st58 _ (oastore X58 hx hby d5_157 (lc23 a1 q2 (-1) 0 b54) rfl rfl (oaloadN X58 hx hby d5_159 rfl rfl (st67 _ (oiload X67 hx hby d5_163 rfl (oaload X67 hx hby d5_165 rfl rfl (st72 _ (oaloadN X72 hx hby d5_168 rfl rfl (st76 _ (oiload X76 hx hby d5_172 rfl (oaloadN X76 hx hby d5_174 rfl rfl (olloadN X76 hx hby d5_175 rfl (st77 _ (st85 _ (oaloadN X85 hx hby d5_180 rfl rfl (odup X85 hx hby d5_181 rfl (st89 _ (oiconst X89 hx hby d5_185 (oiadd X89 hx hby d5_186 (st92 _ (oaload X92 hx hby d5_190 rfl rfl k)))))))))))))))))))))))))))))))))))))))))))))))))))) ?_
  have f96 : Arv Z h92 a24 kc29 (.object zs1) (16 : Int32) [(.ref b54), (.ref a27), (.ref a28)] .null := ((f74.other W85 (Ne.symm ne49)).other W92 (Ne.symm ne42))
  have f97 : Arv Z h92 a11 kc15 .long (16 : Int32) [(.long (q2 ^^^ (-1 : Int64))), (.long q13), (.long q14)] (.long (0 : Int64)) := (f87.other W92 (Ne.symm ne64))
  have f98 : Fld Z h92 a1 zs2 "side" zs4 (.ref a4) := (Fld.other W92 (Fld.other W85 f78 (Or.inl ne64)) (Or.inr (slot_ne (Or.inr (ww hw 26 rfl)) (Or.inl (ww hw 33 rfl)) (by decide) (t := (.object zs6)) (t' := .int) (by decide) (by decide))))
  have f99 : Fld Z h92 a1 zs2 "ranks" "[J" (.ref a11) := (Fld.other W92 (Fld.other W85 f75 (Or.inl ne64)) (Or.inr (slot_ne (Or.inl (ww hw 24 rfl)) (Or.inl (ww hw 33 rfl)) (by decide) (t := (.array .long)) (t' := .int) (by decide) (by decide))))
  have f100 : Fld Z h92 a1 zs2 "levels" zs3 (.ref a24) := (Fld.other W92 (Fld.other W85 (Fld.other W72 f66 (Or.inl ne42)) (Or.inl ne64)) (Or.inr (slot_ne (Or.inl (ww hw 21 rfl)) (Or.inl (ww hw 33 rfl)) (by decide) (t := (.array (.object zs1))) (t' := .int) (by decide) (by decide))))
  have f101 : Fld Z h92 a1 zs2 "emptyLevels" "I" (.int 0) := (Fld.other W92 (Fld.other W85 (Fld.other W72 ((Fld.ext E54 ((F90.keep K35 (ninS ne42 nin0)).keep K48 (ninS ne64 nin0))).keep K58 (ninS ne65 nin0)) (Or.inl ne42)) (Or.inl ne64)) (Or.inr (slot_ne (Or.inl (ww hw 80 rfl)) (Or.inl (ww hw 33 rfl)) (by decide) (t := .int) (t' := .int) (by decide) (by decide))))
  have f102 : Exa Z h92 b54 zs1 := (Exa.wr W92 (Exa.wr W85 (Exa.wr W72 f70)))
  have f103 : Fld Z h92 b54 zs1 "price" zs10 .null := (Fld.other W92 (Fld.other W85 (Fld.other W72 f60 (Or.inl (Ne.symm ne68))) (Or.inl (Ne.symm ne82))) (Or.inl (Ne.symm ne65)))
  have f104 : Fld Z h92 b54 zs1 "priceSteps" "J" (.long q2) := (Fld.other W92 (Fld.other W85 (Fld.other W72 f61 (Or.inl (Ne.symm ne68))) (Or.inl (Ne.symm ne82))) (Or.inl (Ne.symm ne65)))
  have f105 : Fld Z h92 b54 zs1 "first" zs11 .null := (Fld.other W92 (Fld.other W85 (Fld.other W72 f62 (Or.inl (Ne.symm ne68))) (Or.inl (Ne.symm ne82))) (Or.inl (Ne.symm ne65)))
  obtain ⟨fs, hr, hrun, hended, hW, hsame⟩ := X92.leave (v := some (.ref b54)) (fun h => by rw [Bd.returns] at h; cases h)
  refine own_out ⟨_, _, ?_, hrun, hended, _, _, rfl, ?_, ⟨_, rfl⟩, hW, hsame.mono (by decide) (by decide)⟩
  · exact retOut X92 hx Bd.returns rfl (Or.inr (Or.inr (Or.inr (Or.inr ⟨rfl, rfl, rfl⟩)))) (hb hby d5_192) hr
  · show Q5_71 Z a1 q2 a4 a6 a11 q13 q14 kc15 a24 a27 a28 kc29 h0 n0 _ T92.heap _
    rw [e92]
    exact ⟨b54, rfl, N94, ((((Keep.trans ((Keep.trans (Keep.trans (Keep.refl h0 [a24, a11, a1]) K35 (allS (Or.inl (List.mem_of_getElem? (i := 0) rfl)) all0)) K48 (allS (Or.inl (List.mem_of_getElem? (i := 1) rfl)) all0)).ext E54) K58 (allS (Or.inr (Nat.le_trans K35.1 (Nat.le_trans K48.1 (Nat.le_of_eq g54.symm)))) all0)).wr W72 (Or.inl (List.mem_of_getElem? (i := 0) rfl))).wr W85 (Or.inl (List.mem_of_getElem? (i := 1) rfl))).wr W92 (Or.inl (List.mem_of_getElem? (i := 2) rfl))), (Nat.le_trans K35.1 (Nat.le_trans K48.1 (Nat.le_of_eq g54.symm))), f96, f97, f98, f95, f99, f100, f101, f102, f103, f104, f105⟩
def Q6_72 (Z : State) (a1 : Addr) (q2 : Int64) (a4 : Addr) (a6 : Addr) (a14 : Addr) (q17 : Int64) (kc18 : ClassId) (h0 : Heap) (n0 : Nat) (v : Option Value) (h : Heap) (L : List Loc) : Prop := v = some (.int 0) ∧ Fr n0 L ∧ h = h0
set_option maxRecDepth 65536 in
set_option maxHeartbeats 40000000 in
theorem rm6_72 (l : Launch) (Z : State) (a0 : Array Value) (hw : ∀ d ∈ tables_1, d.before a0 Z = true) (ws : List Jvm.Cond) (a1 : Addr) (q2 : Int64) (a4 : Addr) (a6 : Addr) (a14 : Addr) (q17 : Int64) (kc18 : ClassId) (h0 : Heap) (n0 : Nat) (Z0 : n0 ≤ h0.size) (F5 : Fld Z h0 a1 zs2 "side" zs4 (.ref a4)) (F7 : Sta Z h0 zs6 "BUY" zs4 (.ref a6)) (ha8 : a4 ≠ a6) (F9 : Exa Z h0 a1 zs2) (F12 : Fld Z h0 a1 zs2 "count" "I" (.int 1)) (F15 : Fld Z h0 a1 zs2 "ranks" "[J" (.ref a14)) (F19 : Arv Z h0 a14 kc18 .long (16 : Int32) [(.long q17)] (.long (0 : Int64))) (hc22 : ¬ (q17 < (q2 ^^^ (-1 : Int64)))) (hc26 : ¬ ((q2 ^^^ (-1 : Int64)) = (-9223372036854775808 : Int64))) (hc28 : ¬ ((q2 ^^^ (-1 : Int64)) = (9223372036854775807 : Int64))) (hc34 : q17 = (q2 ^^^ (-1 : Int64))) :
    MetFree l zm5 (head1 (Jvm.Cond.code zm5 prog_2_method_8_code 11 (some .int) :: ws) ({ frames := 1, cells := 0, slots := 0, locals := 14 } : Room)) (fun a U => a = #[(.ref a1), (.long q2), .null] ∧ Z.Warmed39 U.vm ∧ U.heap = h0) (fun _ _ _ _ _ => True) (fun _ U o U' => ∃ v L, o = .returned v ∧ Q6_72 Z a1 q2 a4 a6 a14 q17 kc18 h0 n0 v U'.heap L ∧ FrameEnd U o U' L ({ frames := 1, cells := 0, slots := 0, locals := 14 } : Room).cells ({ frames := 1, cells := 0, slots := 0, locals := 14 } : Room).slots) := by
  refine MetFree.of_bodySF (plainFor_of_name pn_com_example_srok_srok_engine_BookSide) hisR ?_
  intro p e s m args below meth c s₁ Bd hml0 hP hK
  obtain ⟨rfl, hZ, hh⟩ := hP
  have hx := Bd.exec
  have hby := Bd.bytes
  have hml : c.maxLocals = 11 := hml0
  have hown : s.vm.findClass zs2 = some m.cls := findClass_of_methodNamed Bd.named
  have hnm := (name_of_methodNamed Bd.named Bd.method).1
  have X0 : Stand p l e ({ frames := 1, cells := 0, slots := 0, locals := 14 } : Room) s m #[(.ref a1), (.long q2), .null] below meth c s₁ [] 0 0 := Stand.of_body Bd
  have e0 : s₁.heap = h0 := by rw [← hh, Bd.state]; rfl
  have N0 := Fr.nil n0
  refine own_pre (g' := mkF m 0 (lc11 a1 q2) []) (ef_5 m a1 q2) ?_
  obtain ⟨_, T3, L3, X3, hQ3, st3⟩ := ocallP X0 hx hZ zm3 hown (ww hw 43 rfl) (ww hw 44 rfl) (own_selP (mvT hZ (ww hw 10 rfl)) (mvP hZ (ww hw 45 rfl)) (mvT hZ (ww hw 44 rfl)) (by decide)) (ww hw 45 rfl) (by decide) (ww hw 46 rfl) (ww hw 11 rfl) e0 F9 (rm7_48 l Z a0 hw [] a1 q2 a4 a6 h0 n0 Z0 F5 F7 ha8) (st := [(.long q2), (.ref a1)]) rfl 0 rfl (by decide) (pc := 2) (Ls := (lc11 a1 q2)) hml rfl (lenOf pd_0 rfl) d6_2 hby
  obtain ⟨rfl, N3q, e3⟩ := hQ3
  have N10 := Fr.app N0 N3q
  refine own_go (U' := T3.setTop (mkF m 7 (lc13 a1 q2 (q2 ^^^ (-1 : Int64))) [])) (fun t k => oaloadN X0 hx hby d6_0 rfl rfl (olloadN X0 hx hby d6_1 rfl (st3 _ (olstore X3 hx hby d6_5 (lc13 a1 q2 (q2 ^^^ (-1 : Int64))) rfl k)))) ?_
  obtain ⟨z11, hz11⟩ : ∃ z, z = (q2 ^^^ (-1 : Int64)) := ⟨_, rfl⟩
  rw [← hz11]
  obtain ⟨T13, X13, e13, st13⟩ := getF X3 hx hZ hown (host := "") (Or.inl (ww hw 32 rfl)) Via.refl e3 F12 (g := (mkF m 8 (lc13 a1 q2 z11) [(.ref a1)])) rfl rfl (hb hby d6_8)
  refine own_go (U' := T13.setTop (mkF m 21 (lc15 a1 q2 z11 1 1) [(.int 0)])) (fun t k => oaloadN X3 hx hby d6_7 rfl rfl (st13 _ (oistore X13 hx hby d6_11 (lc14 a1 q2 z11 1) rfl (oiconst X13 hx hby d6_13 (oistore X13 hx hby d6_14 (lc15 a1 q2 z11 1 1) rfl (oiload X13 hx hby d6_16 rfl (oiload X13 hx hby d6_18 rfl (oisub X13 hx hby d6_20 k)))))))) ?_
  obtain ⟨T16, X16, e16, st16⟩ := getF X13 hx hZ hown (host := "") (Or.inl (ww hw 23 rfl)) Via.refl e13 F15 (g := (mkF m 25 (lc15 a1 q2 z11 1 1) [(.ref a1)])) rfl rfl (hb hby d6_25)
  obtain ⟨cl20, Ar20, q20, S20, N20, H20, G20⟩ := id F19
  have hin21 : ¬ ((0 : Int32) < 0 ∨ cl20.slots.size ≤ ((0 : Int32)).toNatClampNeg) := inb_of S20 ⟨by decide, by decide⟩
  have hat21 : cl20.slots[((0 : Int32)).toNatClampNeg]? = some (.long q17) := Has.at H20 hin21 rfl
  refine own_go (U' := T16.setTop (mkF m 37 (lc15 a1 q2 z11 1 1) [(.int (lcmpW q17 z11))])) (fun t k => oifN X13 hx hby d6_21 (by decide) (oaloadN X13 hx hby d6_24 rfl rfl (st16 _ (oiload X16 hx hby d6_28 rfl (oiload X16 hx hby d6_30 rfl (oisub X16 hx hby d6_32 (X16.laload hx (j := (0 : Int32)) (v := (.long q17)) (by rw [e16]; exact Ar20.1) (State.isArrayOf_alike hZ.alike Ar20.2.1) Ar20.2.2 hin21 hat21 (g := (mkF m 33 (lc15 a1 q2 z11 1 1) [(.int 0), (.ref a14)])) rfl rfl (hb hby d6_33) _ (olload X16 hx hby d6_34 rfl (olcmp X16 hx hby d6_36 k))))))))) ?_
  have hs23 : ¬ (q17 < z11) := by rw [hz11]; exact hc22
  refine own_go (U' := T16.setTop (mkF m 16 (lc15 a1 q2 z11 0 2) [])) (fun t k => oifN X16 hx hby d6_37 (own_ll_lt_f hs23) (oiload X16 hx hby d6_40 rfl (oiload X16 hx hby d6_42 rfl (oisub X16 hx hby d6_44 (oistore X16 hx hby d6_45 (lc15 a1 q2 z11 0 1) rfl (oiload X16 hx hby d6_47 rfl (oiconst X16 hx hby d6_49 (oimul X16 hx hby d6_50 (oistore X16 hx hby d6_51 (lc15 a1 q2 z11 0 2) rfl (ogoto (pc := 53) X16 hx hby d6_53 16 (by decide) k)))))))))) ?_
  refine own_go (U' := T16.setTop (mkF m 21 (lc15 a1 q2 z11 0 2) [(.int ((0 : Int32) - (2 : Int32)))])) (fun t k => oiload X16 hx hby d6_16 rfl (oiload X16 hx hby d6_18 rfl (oisub X16 hx hby d6_20 k))) ?_
  rw [show ((0 : Int32) - (2 : Int32)) = (-2 : Int32) from by decide]
  refine own_go (U' := T16.setTop (mkF m 62 (lc15 a1 q2 z11 0 2) [(.int ((0 : Int32) - (2 : Int32))), (.int 0)])) (fun t k => oifY (pc := 21) X16 hx hby d6_21 56 (by decide) (by decide) (oiconst X16 hx hby d6_56 (oiload X16 hx hby d6_57 rfl (oiload X16 hx hby d6_59 rfl (oisub X16 hx hby d6_61 k))))) ?_
  rw [show ((0 : Int32) - (2 : Int32)) = (-2 : Int32) from by decide]
  refine own_go (U' := T16.setTop (mkF m 64 (lc15 a1 q2 z11 0 2) [(.int ((-2 : Int32) + (1 : Int32))), (.int 0)])) (fun t k => oiconst X16 hx hby d6_62 (oiadd X16 hx hby d6_63 k)) ?_
  rw [show ((-2 : Int32) + (1 : Int32)) = (-1 : Int32) from by decide]
  obtain ⟨_, T24, L24, X24, hQ24, st24⟩ := ocallS X16 hx hZ zm4 hown (ww hw 48 rfl) (ww hw 49 rfl) (by decide) (ww hw 51 rfl) (ww hw 50 rfl) e16 (rm8_14 l Z a0 hw []  h0 n0 Z0 ) (st := [(.int (-1)), (.int 0)]) rfl 0 rfl (by decide) (pc := 64) (Ls := (lc15 a1 q2 z11 0 2)) hml rfl (lenOf pd_3 rfl) d6_64 hby
  obtain ⟨rfl, N24q, e24⟩ := hQ24
  have N25 := Fr.app N10 N24q
  refine own_go (U' := T24.setTop (mkF m 79 (lc18 a1 q2 z11 0 2 0 0) [(.int 1), (.int 0)])) (fun t k => st24 _ (oistore X24 hx hby d6_67 (lc17 a1 q2 z11 0 2 0) rfl (oiload X24 hx hby d6_69 rfl (oiload X24 hx hby d6_71 rfl (oisub X24 hx hby d6_73 (oistore X24 hx hby d6_74 (lc18 a1 q2 z11 0 2 0 0) rfl (oiload X24 hx hby d6_76 rfl (oiconst X24 hx hby d6_78 k)))))))) ?_
  refine own_go (U' := T24.setTop (mkF m 132 (lc18 a1 q2 z11 0 2 0 0) [(.int 0), (.int 0)])) (fun t k => oicY (pc := 79) X24 hx hby d6_79 128 (by decide) (by decide) (oiload X24 hx hby d6_128 rfl (oiload X24 hx hby d6_130 rfl k))) ?_
  refine own_go (U' := T24.setTop (mkF m 157 (lc18 a1 q2 z11 0 2 0 0) [(.int (lcmpW z11 (-9223372036854775808 : Int64)))])) (fun t k => oicY (pc := 132) X24 hx hby d6_132 151 (by decide) (by decide) (olload X24 hx hby d6_151 rfl (X24.ldc2Long hx hown (mvT hZ (ww hw 52 rfl)) (g := (mkF m 153 (lc18 a1 q2 z11 0 2 0 0) [(.long z11)])) rfl (hb hby d6_153) _ (olcmp X24 hx hby d6_156 k)))) ?_
  have hs27 : ¬ (z11 = (-9223372036854775808 : Int64)) := by rw [hz11]; exact hc26
  refine own_go (U' := T24.setTop (mkF m 166 (lc18 a1 q2 z11 0 2 0 0) [(.int (lcmpW z11 (9223372036854775807 : Int64)))])) (fun t k => oifN X24 hx hby d6_157 (own_ll_eq_f hs27) (olload X24 hx hby d6_160 rfl (X24.ldc2Long hx hown (mvT hZ (ww hw 53 rfl)) (g := (mkF m 162 (lc18 a1 q2 z11 0 2 0 0) [(.long z11)])) rfl (hb hby d6_162) _ (olcmp X24 hx hby d6_165 k)))) ?_
  have hs29 : ¬ (z11 = (9223372036854775807 : Int64)) := by rw [hz11]; exact hc28
  refine own_go (U' := T24.setTop (mkF m 178 (lc18 a1 q2 z11 0 2 0 1) [(.int 1)])) (fun t k => oifN X24 hx hby d6_166 (own_ll_eq_f hs29) (oiconst X24 hx hby d6_169 (ogoto (pc := 170) X24 hx hby d6_170 174 (by decide) (oistore X24 hx hby d6_174 (lc18 a1 q2 z11 0 2 0 1) rfl (oiload X24 hx hby d6_176 rfl k))))) ?_
  obtain ⟨T30, X30, e30, st30⟩ := getF X24 hx hZ hown (host := "") (Or.inl (ww hw 32 rfl)) Via.refl e24 F12 (g := (mkF m 230 (lc18 a1 q2 z11 0 2 0 1) [(.ref a1), (.int 0)])) rfl rfl (hb hby d6_230)
  refine own_go (U' := T30.setTop (mkF m 233 (lc18 a1 q2 z11 0 2 0 1) [(.int 1), (.int 0)])) (fun t k => oifY (pc := 178) X24 hx hby d6_178 227 (by decide) (by decide) (oiload X24 hx hby d6_227 rfl (oaloadN X24 hx hby d6_229 rfl rfl (st30 _ k)))) ?_
  obtain ⟨T31, X31, e31, st31⟩ := getF X30 hx hZ hown (host := "") (Or.inl (ww hw 23 rfl)) Via.refl e30 F15 (g := (mkF m 237 (lc18 a1 q2 z11 0 2 0 1) [(.ref a1)])) rfl rfl (hb hby d6_237)
  obtain ⟨cl32, Ar32, q32, S32, N32, H32, G32⟩ := id F19
  have hin33 : ¬ ((0 : Int32) < 0 ∨ cl32.slots.size ≤ ((0 : Int32)).toNatClampNeg) := inb_of S32 ⟨by decide, by decide⟩
  have hat33 : cl32.slots[((0 : Int32)).toNatClampNeg]? = some (.long q17) := Has.at H32 hin33 rfl
  refine own_go (U' := T31.setTop (mkF m 246 (lc18 a1 q2 z11 0 2 0 1) [(.int (lcmpW q17 z11))])) (fun t k => oicN X30 hx hby d6_233 (by decide) (oaloadN X30 hx hby d6_236 rfl rfl (st31 _ (oiload X31 hx hby d6_240 rfl (X31.laload hx (j := (0 : Int32)) (v := (.long q17)) (by rw [e31]; exact Ar32.1) (State.isArrayOf_alike hZ.alike Ar32.2.1) Ar32.2.2 hin33 hat33 (g := (mkF m 242 (lc18 a1 q2 z11 0 2 0 1) [(.int 0), (.ref a14)])) rfl rfl (hb hby d6_242) _ (olload X31 hx hby d6_243 rfl (olcmp X31 hx hby d6_245 k))))))) ?_
  have hs35 : q17 = z11 := by rw [hz11]; exact hc34
  refine own_go (U' := T31.setTop (mkF m 251 (lc18 a1 q2 z11 0 2 0 1) [(.int 1)])) (fun t k => oifN X31 hx hby d6_246 (own_ll_ne_f hs35) (oiload X31 hx hby d6_249 rfl k)) ?_
  refine own_go (U' := T31.setTop (mkF m 280 (lc19 a1 q2 z11 0 2 0 1 1) [(.int 1)])) (fun t k => oifY (pc := 251) X31 hx hby d6_251 271 (by decide) (by decide) (oiconst X31 hx hby d6_271 (ogoto (pc := 272) X31 hx hby d6_272 276 (by decide) (oistore X31 hx hby d6_276 (lc19 a1 q2 z11 0 2 0 1 1) rfl (oiload X31 hx hby d6_278 rfl k))))) ?_
  refine own_go (U' := T31.setTop (mkF m 292 (lc19 a1 q2 z11 0 2 0 1 1) [(.int 0)])) (fun t k => oifN X31 hx hby d6_280 (by decide) (oiload X31 hx hby d6_283 rfl (ogoto (pc := 285) X31 hx hby d6_285 292 (by decide) k))) ?_
  obtain ⟨fs, hr, hrun, hended, hW, hsame⟩ := X31.leave (v := some (.int 0)) (fun h => by rw [Bd.returns] at h; cases h)
  refine own_out ⟨_, _, ?_, hrun, hended, _, _, rfl, ?_, ⟨_, rfl⟩, hW, hsame.mono (by decide) (by decide)⟩
  · exact retI X31 hx Bd.returns (hb hby d6_292) hr
  · show Q6_72 Z a1 q2 a4 a6 a14 q17 kc18 h0 n0 _ T31.heap _
    rw [e31]
    exact ⟨rfl, N25, rfl⟩
def Qmg6_73 (Z : State) (a1 : Addr) (q2 : Int64) (a3 : Addr) (a5 : Addr) (a10 : Addr) (q12 : Int64) (kc13 : ClassId) (h0 : Heap) (n0 : Nat) (v : Option Value) (h : Heap) (L : List Loc) : Prop := v = some (.int 0) ∧ Fr n0 L ∧ h = h0
theorem mg6_73 (l : Launch) (Z : State) (a0 : Array Value) (hw : ∀ d ∈ tables_1, d.before a0 Z = true) (ws : List Jvm.Cond) (a1 : Addr) (q2 : Int64) (a3 : Addr) (a5 : Addr) (a10 : Addr) (q12 : Int64) (kc13 : ClassId) (h0 : Heap) (n0 : Nat) (Z0 : n0 ≤ h0.size) (F4 : Fld Z h0 a1 zs2 "side" zs4 (.ref a3)) (F6 : Sta Z h0 zs6 "BUY" zs4 (.ref a5)) (ha7 : a3 ≠ a5) (F8 : Exa Z h0 a1 zs2) (F9 : Fld Z h0 a1 zs2 "count" "I" (.int 1)) (F11 : Fld Z h0 a1 zs2 "ranks" "[J" (.ref a10)) (F14 : Arv Z h0 a10 kc13 .long (16 : Int32) [(.long q12)] (.long (0 : Int64))) (hc15 : ¬ (q12 < (q2 ^^^ (-1 : Int64)))) (hc16 : ¬ ((q2 ^^^ (-1 : Int64)) = (-9223372036854775808 : Int64))) (hc17 : ¬ ((q2 ^^^ (-1 : Int64)) = (9223372036854775807 : Int64))) (hc18 : q12 = (q2 ^^^ (-1 : Int64))) :
    MetFree l zm5 (head1 (Jvm.Cond.code zm5 prog_2_method_8_code 11 (some .int) :: ws) ({ frames := 1, cells := 0, slots := 0, locals := 14 } : Room)) (fun a U => a = #[(.ref a1), (.long q2), .null] ∧ Z.Warmed39 U.vm ∧ U.heap = h0) (fun _ _ _ _ _ => True) (fun _ U o U' => ∃ v L, o = .returned v ∧ Qmg6_73 Z a1 q2 a3 a5 a10 q12 kc13 h0 n0 v U'.heap L ∧ FrameEnd U o U' L ({ frames := 1, cells := 0, slots := 0, locals := 14 } : Room).cells ({ frames := 1, cells := 0, slots := 0, locals := 14 } : Room).slots) := by
  exact rm6_72 l Z a0 hw ws a1 q2 a3 a5 a10 q12 kc13 h0 n0 Z0 F4 F6 ha7 F8 F9 F11 F14 hc15 hc16 hc17 hc18
def Q5_74 (Z : State) (a1 : Addr) (q2 : Int64) (a4 : Addr) (a6 : Addr) (a11 : Addr) (q13 : Int64) (kc14 : ClassId) (a21 : Addr) (a24 : Addr) (kc25 : ClassId) (h0 : Heap) (n0 : Nat) (v : Option Value) (h : Heap) (L : List Loc) : Prop := v = some (.ref a24) ∧ Fr n0 L ∧ Keep h0 h [a1] ∧ Fld Z h a1 zs2 "side" zs4 (.ref a4) ∧ Fld Z h a1 zs2 "count" "I" (.int 1) ∧ Fld Z h a1 zs2 "ranks" "[J" (.ref a11) ∧ Fld Z h a1 zs2 "levels" zs3 (.ref a21) ∧ Fld Z h a1 zs2 "emptyLevels" "I" (.int (-1))
set_option maxRecDepth 65536 in
set_option maxHeartbeats 40000000 in
theorem rm5_74 (l : Launch) (Z : State) (a0 : Array Value) (hw : ∀ d ∈ tables_1, d.before a0 Z = true) (ws : List Jvm.Cond) (a1 : Addr) (q2 : Int64) (a4 : Addr) (a6 : Addr) (a11 : Addr) (q13 : Int64) (kc14 : ClassId) (a21 : Addr) (a24 : Addr) (kc25 : ClassId) (h0 : Heap) (n0 : Nat) (Z0 : n0 ≤ h0.size) (F5 : Fld Z h0 a1 zs2 "side" zs4 (.ref a4)) (F7 : Sta Z h0 zs6 "BUY" zs4 (.ref a6)) (ha8 : a4 ≠ a6) (F9 : Exa Z h0 a1 zs2) (F10 : Fld Z h0 a1 zs2 "count" "I" (.int 1)) (F12 : Fld Z h0 a1 zs2 "ranks" "[J" (.ref a11)) (F15 : Arv Z h0 a11 kc14 .long (16 : Int32) [(.long q13)] (.long (0 : Int64))) (hc16 : ¬ (q13 < (q2 ^^^ (-1 : Int64)))) (hc17 : ¬ ((q2 ^^^ (-1 : Int64)) = (-9223372036854775808 : Int64))) (hc18 : ¬ ((q2 ^^^ (-1 : Int64)) = (9223372036854775807 : Int64))) (hc19 : q13 = (q2 ^^^ (-1 : Int64))) (F22 : Fld Z h0 a1 zs2 "levels" zs3 (.ref a21)) (F26 : Arv Z h0 a21 kc25 (.object zs1) (16 : Int32) [(.ref a24)] .null) (F30 : Exa Z h0 a24 zs1) (F31 : Fld Z h0 a24 zs1 "first" zs11 .null) (F33 : Fld Z h0 a1 zs2 "emptyLevels" "I" (.int 0)) (g36 : n0 ≤ a1) (ne41 : a21 ≠ a1) :
    MetFree l zm7 (head1 (Jvm.Cond.code zm7 prog_2_method_5_code 7 (some (.object zs1)) :: ws) ({ frames := 2, cells := 0, slots := 0, locals := 36 } : Room)) (fun a U => a = #[(.ref a1), (.long q2), .null] ∧ Z.Warmed39 U.vm ∧ U.heap = h0) (fun _ _ _ _ _ => True) (fun _ U o U' => ∃ v L, o = .returned v ∧ Q5_74 Z a1 q2 a4 a6 a11 q13 kc14 a21 a24 kc25 h0 n0 v U'.heap L ∧ FrameEnd U o U' L ({ frames := 2, cells := 0, slots := 0, locals := 36 } : Room).cells ({ frames := 2, cells := 0, slots := 0, locals := 36 } : Room).slots) := by
  refine MetFree.of_bodySF (plainFor_of_name pn_com_example_srok_srok_engine_BookSide) hisR ?_
  intro p e s m args below meth c s₁ Bd hml0 hP hK
  obtain ⟨rfl, hZ, hh⟩ := hP
  have hx := Bd.exec
  have hby := Bd.bytes
  have hml : c.maxLocals = 7 := hml0
  have hown : s.vm.findClass zs2 = some m.cls := findClass_of_methodNamed Bd.named
  have hnm := (name_of_methodNamed Bd.named Bd.method).1
  have X0 : Stand p l e ({ frames := 2, cells := 0, slots := 0, locals := 36 } : Room) s m #[(.ref a1), (.long q2), .null] below meth c s₁ [] 0 0 := Stand.of_body Bd
  have e0 : s₁.heap = h0 := by rw [← hh, Bd.state]; rfl
  have N0 := Fr.nil n0
  refine own_pre (g' := mkF m 0 (lc10 a1 q2) []) (ef_7 m a1 q2) ?_
  obtain ⟨_, T3, L3, X3, hQ3, st3⟩ := ocallP X0 hx hZ zm5 hown (ww hw 39 rfl) (ww hw 40 rfl) (own_selP (mvT hZ (ww hw 10 rfl)) (mvP hZ (ww hw 41 rfl)) (mvT hZ (ww hw 40 rfl)) (by decide)) (ww hw 41 rfl) (by decide) (ww hw 42 rfl) (ww hw 11 rfl) e0 F9 (mg6_73 l Z a0 hw [] a1 q2 a4 a6 a11 q13 kc14 h0 n0 Z0 F5 F7 ha8 F9 F10 F12 F15 hc16 hc17 hc18 hc19) (st := [.null, (.long q2), (.ref a1)]) rfl 0 rfl (by decide) (pc := 3) (Ls := (lc10 a1 q2)) hml rfl (lenOf pd_4 rfl) d5_3 hby
  obtain ⟨rfl, N3q, e3⟩ := hQ3
  have N20 := Fr.app N0 N3q
  refine own_go (U' := T3.setTop (mkF m 10 (lc20 a1 q2 0) [(.int 0)])) (fun t k => oaloadN X0 hx hby d5_0 rfl rfl (olloadN X0 hx hby d5_1 rfl (oaloadN X0 hx hby d5_2 rfl rfl (st3 _ (oistore X3 hx hby d5_6 (lc20 a1 q2 0) rfl (oiload X3 hx hby d5_8 rfl k)))))) ?_
  obtain ⟨T23, X23, e23, st23⟩ := getF X3 hx hZ hown (host := "") (Or.inl (ww hw 20 rfl)) Via.refl e3 F22 (g := (mkF m 14 (lc20 a1 q2 0) [(.ref a1)])) rfl rfl (hb hby d5_14)
  obtain ⟨cl27, Ar27, q27, S27, N27, H27, G27⟩ := id F26
  have hin28 : ¬ ((0 : Int32) < 0 ∨ cl27.slots.size ≤ ((0 : Int32)).toNatClampNeg) := inb_of S27 ⟨by decide, by decide⟩
  have hat28 : cl27.slots[((0 : Int32)).toNatClampNeg]? = some (.ref a24) := Has.at H27 hin28 rfl
  obtain ⟨_, T29, L29, X29, hQ29, st29⟩ := ocallV X23 hx hZ zm9 zm9 hown (ww hw 72 rfl) (ww hw 73 rfl) (notFace_of_selects (args := #[]) (mvT hZ (ww hw 75 rfl))) (ww hw 75 rfl) (ww hw 74 rfl) (by decide) (ww hw 76 rfl) (ww hw 59 rfl) e23 F30 (rm11_27 l Z a0 hw [] a24 h0 n0 Z0 F31) (st := [(.ref a24)]) rfl 0 rfl (by decide) (pc := 20) (Ls := (lc20 a1 q2 0)) hml rfl (lenOf pd_8 rfl) d5_20 hby
  obtain ⟨rfl, N29q, e29⟩ := hQ29
  have N32 := Fr.app N20 N29q
  refine own_go (U' := T29.setTop (mkF m 23 (lc20 a1 q2 0) [(.int 1)])) (fun t k => oifN X3 hx hby d5_10 (by decide) (oaloadN X3 hx hby d5_13 rfl rfl (st23 _ (oiload X23 hx hby d5_17 rfl (X23.aaload hx (j := (0 : Int32)) (v := (.ref a24)) (by rw [e23]; exact Ar27.1) (State.isArrayOf_alike hZ.alike Ar27.2.1) rfl Ar27.2.2 hin28 hat28 (g := (mkF m 19 (lc20 a1 q2 0) [(.int 0), (.ref a21)])) rfl rfl (hb hby d5_19) _ (st29 _ k)))))) ?_
  obtain ⟨T34, X34, e34, st34⟩ := getF X29 hx hZ hown (host := "") (Or.inl (ww hw 79 rfl)) Via.refl e29 F33 (g := (mkF m 28 (lc20 a1 q2 0) [(.ref a1), (.ref a1)])) rfl rfl (hb hby d5_28)
  refine own_go (U' := T34.setTop (mkF m 33 (lc20 a1 q2 0) [(.int ((0 : Int32) - (1 : Int32))), (.ref a1)])) (fun t k => oifN X29 hx hby d5_23 (by decide) (oaloadN X29 hx hby d5_26 rfl rfl (odup X29 hx hby d5_27 rfl (st34 _ (oiconst X34 hx hby d5_31 (oisub X34 hx hby d5_32 k)))))) ?_
  rw [show ((0 : Int32) - (1 : Int32)) = (-1 : Int32) from by decide]
  obtain ⟨T35, h35, X35, e35, W35, st35⟩ := putF X34 hx hZ hown (host := "") (Or.inl (ww hw 79 rfl)) Via.refl e34 F33 F9 (Or.inl (ww hw 80 rfl)) (ww hw 10 rfl) (ty := .int) (by decide) rfl rfl (g := (mkF m 33 (lc20 a1 q2 0) [(.int (-1)), (.ref a1)])) rfl rfl (hb hby d5_33)
  have N37 := Fr.snoc X35 N32 g36
  have f38 : Fld Z h35 a1 zs2 "emptyLevels" "I" (.int (-1)) := Fld.same W35 F33
  have f39 : Fld Z h35 a1 zs2 "levels" zs3 (.ref a21) := (Fld.other W35 F22 (Or.inr (slot_ne (Or.inl (ww hw 21 rfl)) (Or.inl (ww hw 80 rfl)) (by decide) (t := (.array (.object zs1))) (t' := .int) (by decide) (by decide))))
  obtain ⟨T40, X40, e40, st40⟩ := getF X35 hx hZ hown (host := "") (Or.inl (ww hw 20 rfl)) Via.refl e35 f39 (g := (mkF m 37 (lc20 a1 q2 0) [(.ref a1)])) rfl rfl (hb hby d5_37)
  have f42 : Arv Z h35 a21 kc25 (.object zs1) (16 : Int32) [(.ref a24)] .null := (F26.other W35 ne41)
  obtain ⟨cl43, Ar43, q43, S43, N43, H43, G43⟩ := id f42
  have hin44 : ¬ ((0 : Int32) < 0 ∨ cl43.slots.size ≤ ((0 : Int32)).toNatClampNeg) := inb_of S43 ⟨by decide, by decide⟩
  have hat44 : cl43.slots[((0 : Int32)).toNatClampNeg]? = some (.ref a24) := Has.at H43 hin44 rfl
  refine own_go (U' := T40.setTop (mkF m 43 (lc20 a1 q2 0) [(.ref a24)])) (fun t k => st35 _ (oaloadN X35 hx hby d5_36 rfl rfl (st40 _ (oiload X40 hx hby d5_40 rfl (X40.aaload hx (j := (0 : Int32)) (v := (.ref a24)) (by rw [e40]; exact Ar43.1) (State.isArrayOf_alike hZ.alike Ar43.2.1) rfl Ar43.2.2 hin44 hat44 (g := (mkF m 42 (lc20 a1 q2 0) [(.int 0), (.ref a21)])) rfl rfl (hb hby d5_42) _ k))))) ?_
  have f45 : Fld Z h35 a1 zs2 "side" zs4 (.ref a4) := (Fld.other W35 F5 (Or.inr (slot_ne (Or.inr (ww hw 26 rfl)) (Or.inl (ww hw 80 rfl)) (by decide) (t := (.object zs6)) (t' := .int) (by decide) (by decide))))
  have f46 : Fld Z h35 a1 zs2 "count" "I" (.int 1) := (Fld.other W35 F10 (Or.inr (slot_ne (Or.inl (ww hw 33 rfl)) (Or.inl (ww hw 80 rfl)) (by decide) (t := .int) (t' := .int) (by decide) (by decide))))
  have f47 : Fld Z h35 a1 zs2 "ranks" "[J" (.ref a11) := (Fld.other W35 F12 (Or.inr (slot_ne (Or.inl (ww hw 24 rfl)) (Or.inl (ww hw 80 rfl)) (by decide) (t := (.array .long)) (t' := .int) (by decide) (by decide))))
  obtain ⟨fs, hr, hrun, hended, hW, hsame⟩ := X40.leave (v := some (.ref a24)) (fun h => by rw [Bd.returns] at h; cases h)
  refine own_out ⟨_, _, ?_, hrun, hended, _, _, rfl, ?_, ⟨_, rfl⟩, hW, hsame.mono (by decide) (by decide)⟩
  · exact retOut X40 hx Bd.returns rfl (Or.inr (Or.inr (Or.inr (Or.inr ⟨rfl, rfl, rfl⟩)))) (hb hby d5_43) hr
  · show Q5_74 Z a1 q2 a4 a6 a11 q13 kc14 a21 a24 kc25 h0 n0 _ T40.heap _
    rw [e40]
    exact ⟨rfl, N37, ((Keep.refl h0 [a1]).wr W35 (Or.inl (List.mem_of_getElem? (i := 0) rfl))), f45, f46, f47, f39, f38⟩
def Q5_75 (Z : State) (a1 : Addr) (q2 : Int64) (a4 : Addr) (a6 : Addr) (a11 : Addr) (q13 : Int64) (kc14 : ClassId) (a21 : Addr) (a24 : Addr) (kc25 : ClassId) (h0 : Heap) (n0 : Nat) (v : Option Value) (h : Heap) (L : List Loc) : Prop := ∃ b48 : Addr, v = some (.ref b48) ∧ Fr n0 L ∧ Keep h0 h [a21, a11, a1] ∧ h0.size ≤ b48 ∧ Arv Z h a21 kc25 (.object zs1) (16 : Int32) [(.ref a24), (.ref b48)] .null ∧ Arv Z h a11 kc14 .long (16 : Int32) [(.long q13), (.long (q2 ^^^ (-1 : Int64)))] (.long (0 : Int64)) ∧ Fld Z h a1 zs2 "side" zs4 (.ref a4) ∧ Fld Z h a1 zs2 "count" "I" (.int 2) ∧ Fld Z h a1 zs2 "ranks" "[J" (.ref a11) ∧ Fld Z h a1 zs2 "levels" zs3 (.ref a21) ∧ Fld Z h a1 zs2 "emptyLevels" "I" (.int (-1)) ∧ Exa Z h b48 zs1 ∧ Fld Z h b48 zs1 "price" zs10 .null ∧ Fld Z h b48 zs1 "priceSteps" "J" (.long q2) ∧ Fld Z h b48 zs1 "first" zs11 .null
set_option maxRecDepth 65536 in
set_option maxHeartbeats 40000000 in
theorem rm5_75 (l : Launch) (Z : State) (a0 : Array Value) (hw : ∀ d ∈ tables_1, d.before a0 Z = true) (ws : List Jvm.Cond) (a1 : Addr) (q2 : Int64) (a4 : Addr) (a6 : Addr) (a11 : Addr) (q13 : Int64) (kc14 : ClassId) (a21 : Addr) (a24 : Addr) (kc25 : ClassId) (h0 : Heap) (n0 : Nat) (Z0 : n0 ≤ h0.size) (F5 : Fld Z h0 a1 zs2 "side" zs4 (.ref a4)) (F7 : Sta Z h0 zs6 "BUY" zs4 (.ref a6)) (ha8 : a4 ≠ a6) (F9 : Exa Z h0 a1 zs2) (F10 : Fld Z h0 a1 zs2 "count" "I" (.int 1)) (F12 : Fld Z h0 a1 zs2 "ranks" "[J" (.ref a11)) (F15 : Arv Z h0 a11 kc14 .long (16 : Int32) [(.long q13)] (.long (0 : Int64))) (hc16 : q13 < (q2 ^^^ (-1 : Int64))) (hc17 : ¬ ((q2 ^^^ (-1 : Int64)) = (-9223372036854775808 : Int64))) (hc18 : ¬ ((q2 ^^^ (-1 : Int64)) = (9223372036854775807 : Int64))) (F22 : Fld Z h0 a1 zs2 "levels" zs3 (.ref a21)) (F26 : Arv Z h0 a21 kc25 (.object zs1) (16 : Int32) [(.ref a24)] .null) (g33 : n0 ≤ a21) (O34 : Ovr Z kc25 zs1) (ne36 : a1 ≠ a21) (ne43 : a11 ≠ a21) (g46 : n0 ≤ a11) (ne58 : a1 ≠ a11) (F84 : Fld Z h0 a1 zs2 "emptyLevels" "I" (.int (-1))) (g87 : n0 ≤ a1) :
    MetFree l zm7 (head1 (Jvm.Cond.code zm7 prog_2_method_5_code 7 (some (.object zs1)) :: ws) ({ frames := 2, cells := 1, slots := 4, locals := 36 } : Room)) (fun a U => a = #[(.ref a1), (.long q2), .null] ∧ Z.Warmed39 U.vm ∧ U.heap = h0) (fun _ _ _ _ _ => True) (fun _ U o U' => ∃ v L, o = .returned v ∧ Q5_75 Z a1 q2 a4 a6 a11 q13 kc14 a21 a24 kc25 h0 n0 v U'.heap L ∧ FrameEnd U o U' L ({ frames := 2, cells := 1, slots := 4, locals := 36 } : Room).cells ({ frames := 2, cells := 1, slots := 4, locals := 36 } : Room).slots) := by
  refine MetFree.of_bodySF (plainFor_of_name pn_com_example_srok_srok_engine_BookSide) hisR ?_
  intro p e s m args below meth c s₁ Bd hml0 hP hK
  obtain ⟨rfl, hZ, hh⟩ := hP
  have hx := Bd.exec
  have hby := Bd.bytes
  have hml : c.maxLocals = 7 := hml0
  have hown : s.vm.findClass zs2 = some m.cls := findClass_of_methodNamed Bd.named
  have hnm := (name_of_methodNamed Bd.named Bd.method).1
  have X0 : Stand p l e ({ frames := 2, cells := 1, slots := 4, locals := 36 } : Room) s m #[(.ref a1), (.long q2), .null] below meth c s₁ [] 0 0 := Stand.of_body Bd
  have e0 : s₁.heap = h0 := by rw [← hh, Bd.state]; rfl
  have N0 := Fr.nil n0
  refine own_pre (g' := mkF m 0 (lc10 a1 q2) []) (ef_7 m a1 q2) ?_
  obtain ⟨_, T3, L3, X3, hQ3, st3⟩ := ocallP X0 hx hZ zm5 hown (ww hw 39 rfl) (ww hw 40 rfl) (own_selP (mvT hZ (ww hw 10 rfl)) (mvP hZ (ww hw 41 rfl)) (mvT hZ (ww hw 40 rfl)) (by decide)) (ww hw 41 rfl) (by decide) (ww hw 42 rfl) (ww hw 11 rfl) e0 F9 (mg6_53 l Z a0 hw [] a1 q2 a4 a6 a11 q13 kc14 h0 n0 Z0 F5 F7 ha8 F9 F10 F12 F15 hc16 hc17 hc18) (st := [.null, (.long q2), (.ref a1)]) rfl 0 rfl (by decide) (pc := 3) (Ls := (lc10 a1 q2)) hml rfl (lenOf pd_4 rfl) d5_3 hby
  obtain ⟨rfl, N3q, e3⟩ := hQ3
  have N19 := Fr.app N0 N3q
  refine own_go (U' := T3.setTop (mkF m 10 (lc20 a1 q2 (-2)) [(.int (-2))])) (fun t k => oaloadN X0 hx hby d5_0 rfl rfl (olloadN X0 hx hby d5_1 rfl (oaloadN X0 hx hby d5_2 rfl rfl (st3 _ (oistore X3 hx hby d5_6 (lc20 a1 q2 (-2)) rfl (oiload X3 hx hby d5_8 rfl k)))))) ?_
  refine own_go (U' := T3.setTop (mkF m 47 (lc20 a1 q2 (-2)) [(.int (-(-2 : Int32)))])) (fun t k => oifY (pc := 10) X3 hx hby d5_10 44 (by decide) (by decide) (oiload X3 hx hby d5_44 rfl (oineg X3 hx hby d5_46 k))) ?_
  rw [show (-(-2 : Int32)) = (2 : Int32) from by decide]
  obtain ⟨T20, X20, e20, st20⟩ := getF X3 hx hZ hown (host := "") (Or.inl (ww hw 32 rfl)) Via.refl e3 F10 (g := (mkF m 52 (lc21 a1 q2 (-2) 1) [(.ref a1)])) rfl rfl (hb hby d5_52)
  obtain ⟨T23, X23, e23, st23⟩ := getF X20 hx hZ hown (host := "") (Or.inl (ww hw 20 rfl)) Via.refl e20 F22 (g := (mkF m 56 (lc21 a1 q2 (-2) 1) [(.ref a1), (.int 1)])) rfl rfl (hb hby d5_56)
  refine own_go (U' := T23.setTop (mkF m 59 (lc21 a1 q2 (-2) 1) [(.ref a21), (.int 1)])) (fun t k => oiconst X3 hx hby d5_47 (oisub X3 hx hby d5_48 (oistore X3 hx hby d5_49 (lc21 a1 q2 (-2) 1) rfl (oaloadN X3 hx hby d5_51 rfl rfl (st20 _ (oaloadN X20 hx hby d5_55 rfl rfl (st23 _ k))))))) ?_
  obtain ⟨cl27, Ar27, q27, S27, N27, H27, G27⟩ := id F26
  refine own_go (fun t k => X23.arraylength hx (by rw [e23]; exact Ar27.1) (State.isArrayOf_alike hZ.alike Ar27.2.1) (g := (mkF m 59 (lc21 a1 q2 (-2) 1) [(.ref a21), (.int 1)])) rfl rfl (hb hby d5_59) _ k) ?_
  rw [len_of S27 N27]
  obtain ⟨T28, X28, e28, st28⟩ := getF X23 hx hZ hown (host := "") (Or.inl (ww hw 20 rfl)) Via.refl e23 F22 (g := (mkF m 101 (lc21 a1 q2 (-2) 1) [(.ref a1)])) rfl rfl (hb hby d5_101)
  obtain ⟨T29, X29, e29, st29⟩ := getF X28 hx hZ hown (host := "") (Or.inl (ww hw 20 rfl)) Via.refl e28 F22 (g := (mkF m 107 (lc21 a1 q2 (-2) 1) [(.ref a1), (.int 1), (.ref a21)])) rfl rfl (hb hby d5_107)
  obtain ⟨T30, X30, e30, st30⟩ := getF X29 hx hZ hown (host := "") (Or.inl (ww hw 32 rfl)) Via.refl e29 F10 (g := (mkF m 115 (lc21 a1 q2 (-2) 1) [(.ref a1), (.int 2), (.ref a21), (.int 1), (.ref a21)])) rfl rfl (hb hby d5_115)
  have f32 : Arv Z h0 a21 kc25 (.object zs1) (16 : Int32) [(.ref a24), .null] .null := F26.pad (pad_rep [(.ref a24)] .null 1)
  obtain ⟨cl31, Ar31, q31, -⟩ := id f32
  obtain ⟨T31, h31, L31, X31, e31, N31, K31, V31, st31⟩ := cpA X30 hx hZ hown (ww hw 54 rfl) (ww hw 57 rfl) (ww hw 55 rfl) (ww hw 56 rfl) e30 (us := []) f32 f32 (Or.inr ⟨rfl, rfl, trivial⟩) (by decide) (by decide) (by decide) (by decide) (by decide) rfl (Nat.le_of_ble_eq_true rfl) N19 g33 (g := (mkF m 121 (lc21 a1 q2 (-2) 1) [(.int 0), (.int 2), (.ref a21), (.int 1), (.ref a21)])) rfl (by rw [hml]; rfl) rfl (hb hby d5_121) (by decide) (W := 0) (by show 2 * 0 + _ ≤ _; exact Nat.le_of_eq rfl) (by decide)
  have f35 : Arv Z h31 a21 kc25 (.object zs1) (16 : Int32) [(.ref a24), .null] .null := V31
  have f37 : Fld Z h31 a1 zs2 "ranks" "[J" (.ref a11) := (F12.keep K31 (ninS ne36 nin0))
  obtain ⟨T38, X38, e38, st38⟩ := getF X31 hx hZ hown (host := "") (Or.inl (ww hw 23 rfl)) Via.refl e31 f37 (g := (mkF m 125 (lc21 a1 q2 (-2) 1) [(.ref a1)])) rfl rfl (hb hby d5_125)
  obtain ⟨T39, X39, e39, st39⟩ := getF X38 hx hZ hown (host := "") (Or.inl (ww hw 23 rfl)) Via.refl e38 f37 (g := (mkF m 131 (lc21 a1 q2 (-2) 1) [(.ref a1), (.int 1), (.ref a11)])) rfl rfl (hb hby d5_131)
  have f40 : Fld Z h31 a1 zs2 "count" "I" (.int 1) := (F10.keep K31 (ninS ne36 nin0))
  obtain ⟨T41, X41, e41, st41⟩ := getF X39 hx hZ hown (host := "") (Or.inl (ww hw 32 rfl)) Via.refl e39 f40 (g := (mkF m 139 (lc21 a1 q2 (-2) 1) [(.ref a1), (.int 2), (.ref a11), (.int 1), (.ref a11)])) rfl rfl (hb hby d5_139)
  have f44 : Arv Z h31 a11 kc14 .long (16 : Int32) [(.long q13)] (.long (0 : Int64)) := (F15.keep K31 (ninS ne43 nin0))
  have f45 : Arv Z h31 a11 kc14 .long (16 : Int32) [(.long q13), (.long 0)] (.long (0 : Int64)) := f44.pad (pad_rep [(.long q13)] (.long (0 : Int64)) 1)
  obtain ⟨T42, h42, L42, X42, e42, N42, K42, V42, st42⟩ := cpA X41 hx hZ hown (ww hw 54 rfl) (ww hw 57 rfl) (ww hw 55 rfl) (ww hw 56 rfl) e41 (us := []) f45 f45 (Or.inl ⟨rfl, rfl⟩) (by decide) (by decide) (by decide) (by decide) (by decide) rfl (Nat.le_of_ble_eq_true rfl) N31 g46 (g := (mkF m 145 (lc21 a1 q2 (-2) 1) [(.int 0), (.int 2), (.ref a11), (.int 1), (.ref a11)])) rfl (by rw [hml]; rfl) rfl (hb hby d5_145) (by decide) (W := 0) (by show 2 * 0 + _ ≤ _; exact Nat.le_of_eq rfl) (by decide)
  have f47 : Arv Z h42 a11 kc14 .long (16 : Int32) [(.long q13), (.long 0)] (.long (0 : Int64)) := V42
  obtain ⟨T48, h48, X48, e48, E48, A48, D48, -, st48⟩ := newO X42 hx hZ hown (ww hw 18 rfl) (ww hw 58 rfl) (ww hw 59 rfl) e42 (g := (mkF m 148 (lc21 a1 q2 (-2) 1) [])) rfl (hb hby d5_148) (by decide) (by decide)
  obtain ⟨b48, g48⟩ : ∃ z, z = h42.size := ⟨_, rfl⟩
  rw [← g48] at A48 D48 st48
  have f49 : Fld Z h48 b48 zs1 "price" zs10 .null := D48 (Or.inr (ww hw 65 rfl)) (ty := (.object zs13)) (by decide)
  have f50 : Fld Z h48 b48 zs1 "priceSteps" "J" (.long 0) := D48 (Or.inr (ww hw 67 rfl)) (ty := .long) (by decide)
  have f51 : Fld Z h48 b48 zs1 "first" zs11 .null := D48 (Or.inl (ww hw 78 rfl)) (ty := (.object zs14)) (by decide)
  have Z_1 : n0 ≤ h31.size := Nat.le_trans Z0 K31.1
  have Z_2 : n0 ≤ h42.size := Nat.le_trans Z_1 K42.1
  have g53 : n0 ≤ b48 := Nat.le_trans Z_2 (Nat.le_of_eq g48.symm)
  have Z_3 : n0 ≤ h48.size := Nat.le_trans Z_2 E48.1
  obtain ⟨_, T52, L52, X52, hQ52, st52⟩ := ocallI X48 hx hZ zm6 rfl hown (ww hw 60 rfl) (ww hw 61 rfl) (by decide) (ww hw 62 rfl) (ww hw 59 rfl) e48 (rm9_10 l Z a0 hw [] b48 q2 h48 n0 Z_3 f49 f50 f51 A48 g53) (st := [(.long q2), .null, (.ref b48), (.ref b48)]) rfl 1 rfl (by decide) (pc := 154) (Ls := (lc21 a1 q2 (-2) 1)) hml rfl (lenOf pd_5 rfl) d5_154 hby
  obtain ⟨rfl, N52q, K52, f54, f55, f56⟩ := hQ52
  have N57 := Fr.app N42 N52q
  have ne59 : a1 ≠ b48 := Nat.ne_of_lt (Nat.lt_of_lt_of_le (Nat.lt_of_lt_of_le (Nat.lt_of_lt_of_le (F5.lt) K31.1) K42.1) (Nat.le_of_eq g48.symm))
  have f60 : Fld Z T52.heap a1 zs2 "levels" zs3 (.ref a21) := ((Fld.ext E48 ((F22.keep K31 (ninS ne36 nin0)).keep K42 (ninS ne58 nin0))).keep K52 (ninS ne59 nin0))
  obtain ⟨T61, X61, e61, st61⟩ := getF X52 hx hZ hown (host := "") (Or.inl (ww hw 20 rfl)) Via.refl rfl f60 (g := (mkF m 160 (lc23 a1 q2 (-2) 1 b48) [(.ref a1)])) rfl rfl (hb hby d5_160)
  have ne62 : a21 ≠ b48 := Nat.ne_of_lt (Nat.lt_of_lt_of_le (Nat.lt_of_lt_of_le (f35.lt) K42.1) (Nat.le_of_eq g48.symm))
  have f63 : Arv Z T52.heap a21 kc25 (.object zs1) (16 : Int32) [(.ref a24), .null] .null := (((f35.keep K42 (ninS (Ne.symm ne43) nin0)).ext E48).keep K52 (ninS ne62 nin0))
  have f64 : Exa Z T52.heap b48 zs1 := (A48.keep K52)
  obtain ⟨cl65, Ar65, q65, S65, N65, H65, G65⟩ := id f63
  have hin66 : ¬ ((1 : Int32) < 0 ∨ cl65.slots.size ≤ ((1 : Int32)).toNatClampNeg) := inb_of S65 ⟨by decide, by decide⟩
  obtain ⟨T66, h66, X66, e66, W66, st66⟩ := stR X61 hx hZ e61 Ar65 (j := (1 : Int32)) hin66 rfl (Sto.ofV Ar65 q65 O34 (Ins.self f64)) (g := (mkF m 167 (lc23 a1 q2 (-2) 1 b48) [(.ref b48), (.int 1), (.ref a21)])) rfl rfl (hb hby d5_167)
  have N67 := Fr.snoc X66 N57 g33
  have f68 : Arv Z h66 a21 kc25 (.object zs1) (16 : Int32) [(.ref a24), (.ref b48)] .null := Arv.set Ar65 q65 S65 N65 H65 G65 (by rfl) W66 1 rfl (Nat.le_of_ble_eq_true rfl)
  have f69 : Fld Z h66 a1 zs2 "ranks" "[J" (.ref a11) := (Fld.other W66 ((Fld.ext E48 (f37.keep K42 (ninS ne58 nin0))).keep K52 (ninS ne59 nin0)) (Or.inl ne36))
  obtain ⟨T70, X70, e70, st70⟩ := getF X66 hx hZ hown (host := "") (Or.inl (ww hw 23 rfl)) Via.refl e66 f69 (g := (mkF m 169 (lc23 a1 q2 (-2) 1 b48) [(.ref a1)])) rfl rfl (hb hby d5_169)
  have f72 : Fld Z h66 a1 zs2 "side" zs4 (.ref a4) := (Fld.other W66 ((Fld.ext E48 ((F5.keep K31 (ninS ne36 nin0)).keep K42 (ninS ne58 nin0))).keep K52 (ninS ne59 nin0)) (Or.inl ne36))
  have f73 : Sta Z h66 zs6 "BUY" zs4 (.ref a6) := (Sta.wr W66 (own_staK (Sta.ext E48 (own_staK (own_staK F7 K31 (allS (own_nsV f32) all0)) K42 (allS (own_nsV f45) all0))) K52 (allS (own_nsF f49) all0)))
  have Z_4 : n0 ≤ T52.heap.size := Nat.le_trans Z_3 K52.1
  have Z_5 : n0 ≤ h66.size := Nat.le_trans Z_4 (Keep.of_wr W66).1
  have f74 : Exa Z h66 a1 zs2 := (Exa.wr W66 ((Exa.ext E48 ((F9.keep K31).keep K42)).keep K52))
  obtain ⟨_, T71, L71, X71, hQ71, st71⟩ := ocallP X70 hx hZ zm3 hown (ww hw 43 rfl) (ww hw 44 rfl) (own_selP (mvT hZ (ww hw 10 rfl)) (mvP hZ (ww hw 45 rfl)) (mvT hZ (ww hw 44 rfl)) (by decide)) (ww hw 45 rfl) (by decide) (ww hw 46 rfl) (ww hw 11 rfl) e70 f74 (rm7_48 l Z a0 hw [] a1 q2 a4 a6 h66 n0 Z_5 f72 f73 ha8) (st := [(.long q2), (.ref a1), (.int 1), (.ref a11)]) rfl 2 rfl (by decide) (pc := 176) (Ls := (lc23 a1 q2 (-2) 1 b48)) hml rfl (lenOf pd_0 rfl) d5_176 hby
  obtain ⟨rfl, N71q, e71⟩ := hQ71
  have N75 := Fr.app N67 N71q
  have ne76 : a11 ≠ b48 := Nat.ne_of_lt (Nat.lt_of_lt_of_le (f47.lt) (Nat.le_of_eq g48.symm))
  have f77 : Arv Z h66 a11 kc14 .long (16 : Int32) [(.long q13), (.long 0)] (.long (0 : Int64)) := (((f47.ext E48).keep K52 (ninS ne76 nin0)).other W66 ne43)
  obtain ⟨cl78, Ar78, q78, S78, N78, H78, G78⟩ := id f77
  have hin79 : ¬ ((1 : Int32) < 0 ∨ cl78.slots.size ≤ ((1 : Int32)).toNatClampNeg) := inb_of S78 ⟨by decide, by decide⟩
  obtain ⟨T79, h79, X79, e79, W79, st79⟩ := stJ X71 hx hZ e71 Ar78 (j := (1 : Int32)) hin79 (g := (mkF m 179 (lc23 a1 q2 (-2) 1 b48) [(.long (q2 ^^^ (-1 : Int64))), (.int 1), (.ref a11)])) rfl rfl (hb hby d5_179)
  have N80 := Fr.snoc X79 N75 g46
  have f81 : Arv Z h79 a11 kc14 .long (16 : Int32) [(.long q13), (.long (q2 ^^^ (-1 : Int64)))] (.long (0 : Int64)) := Arv.set Ar78 q78 S78 N78 H78 G78 (by rfl) W79 1 rfl (Nat.le_of_ble_eq_true rfl)
  have f82 : Fld Z h79 a1 zs2 "count" "I" (.int 1) := (Fld.other W79 (Fld.other W66 ((Fld.ext E48 (f40.keep K42 (ninS ne58 nin0))).keep K52 (ninS ne59 nin0)) (Or.inl ne36)) (Or.inl ne58))
  obtain ⟨T83, X83, e83, st83⟩ := getF X79 hx hZ hown (host := "") (Or.inl (ww hw 32 rfl)) Via.refl e79 f82 (g := (mkF m 182 (lc23 a1 q2 (-2) 1 b48) [(.ref a1), (.ref a1)])) rfl rfl (hb hby d5_182)
  have f85 : Exa Z h79 a1 zs2 := (Exa.wr W79 f74)
  obtain ⟨T86, h86, X86, e86, W86, st86⟩ := putF X83 hx hZ hown (host := "") (Or.inl (ww hw 32 rfl)) Via.refl e83 f82 f85 (Or.inl (ww hw 33 rfl)) (ww hw 10 rfl) (ty := .int) (by decide) rfl rfl (g := (mkF m 187 (lc23 a1 q2 (-2) 1 b48) [(.int 2), (.ref a1)])) rfl rfl (hb hby d5_187)
  have N88 := Fr.snoc X86 N80 g87
  have f89 : Fld Z h86 a1 zs2 "count" "I" (.int 2) := Fld.same W86 f82
  refine own_go (U' := T86.setTop (mkF m 192 (lc23 a1 q2 (-2) 1 b48) [(.ref b48)])) (fun t k => oicY (pc := 60) X23 hx hby d5_60 100 (by decide) (by decide) (oaloadN X23 hx hby d5_100 rfl rfl (st28 _ (oiload X28 hx hby d5_104 rfl (oaloadN X28 hx hby d5_106 rfl rfl (st29 _ (oiload X29 hx hby d5_110 rfl (oiconst X29 hx hby d5_112 (oiadd X29 hx hby d5_113 (oaloadN X29 hx hby d5_114 rfl rfl (st30 _ (oiload X30 hx hby d5_118 rfl (oisub X30 hx hby d5_120 (st31 _ (oaloadN X31 hx hby d5_124 rfl rfl (st38 _ (oiload X38 hx hby d5_128 rfl (oaloadN X38 hx hby d5_130 rfl rfl (st39 _ (oiload X39 hx hby d5_134 rfl (oiconst X39 hx hby d5_136 (oiadd X39 hx hby d5_137 (oaloadN X39 hx hby d5_138 rfl rfl (st41 _ (oiload X41 hx hby d5_142 rfl (oisub X41 hx hby d5_144 (st42 _ (st48 _ (odup X48 hx hby d5_151 rfl (oaloadN X48 hx hby d5_152 rfl rfl (olloadN X48 hx hby d5_153 rfl (st52 _ (oastore X52 hx hby d5_157 (lc23 a1 q2 (-2) 1 b48) rfl rfl (oaloadN X52 hx hby d5_159 rfl rfl (st61 _ (oiload X61 hx hby d5_163 rfl (oaload X61 hx hby d5_165 rfl rfl (st66 _ (oaloadN X66 hx hby d5_168 rfl rfl (st70 _ (oiload X70 hx hby d5_172 rfl (oaloadN X70 hx hby d5_174 rfl rfl (olloadN X70 hx hby d5_175 rfl (st71 _ (st79 _ (oaloadN X79 hx hby d5_180 rfl rfl (odup X79 hx hby d5_181 rfl (st83 _ (oiconst X83 hx hby d5_185 (oiadd X83 hx hby d5_186 (st86 _ (oaload X86 hx hby d5_190 rfl rfl k)))))))))))))))))))))))))))))))))))))))))))))))))))) ?_
  have f90 : Arv Z h86 a21 kc25 (.object zs1) (16 : Int32) [(.ref a24), (.ref b48)] .null := ((f68.other W79 (Ne.symm ne43)).other W86 (Ne.symm ne36))
  have f91 : Arv Z h86 a11 kc14 .long (16 : Int32) [(.long q13), (.long (q2 ^^^ (-1 : Int64)))] (.long (0 : Int64)) := (f81.other W86 (Ne.symm ne58))
  have f92 : Fld Z h86 a1 zs2 "side" zs4 (.ref a4) := (Fld.other W86 (Fld.other W79 f72 (Or.inl ne58)) (Or.inr (slot_ne (Or.inr (ww hw 26 rfl)) (Or.inl (ww hw 33 rfl)) (by decide) (t := (.object zs6)) (t' := .int) (by decide) (by decide))))
  have f93 : Fld Z h86 a1 zs2 "ranks" "[J" (.ref a11) := (Fld.other W86 (Fld.other W79 f69 (Or.inl ne58)) (Or.inr (slot_ne (Or.inl (ww hw 24 rfl)) (Or.inl (ww hw 33 rfl)) (by decide) (t := (.array .long)) (t' := .int) (by decide) (by decide))))
  have f94 : Fld Z h86 a1 zs2 "levels" zs3 (.ref a21) := (Fld.other W86 (Fld.other W79 (Fld.other W66 f60 (Or.inl ne36)) (Or.inl ne58)) (Or.inr (slot_ne (Or.inl (ww hw 21 rfl)) (Or.inl (ww hw 33 rfl)) (by decide) (t := (.array (.object zs1))) (t' := .int) (by decide) (by decide))))
  have f95 : Fld Z h86 a1 zs2 "emptyLevels" "I" (.int (-1)) := (Fld.other W86 (Fld.other W79 (Fld.other W66 ((Fld.ext E48 ((F84.keep K31 (ninS ne36 nin0)).keep K42 (ninS ne58 nin0))).keep K52 (ninS ne59 nin0)) (Or.inl ne36)) (Or.inl ne58)) (Or.inr (slot_ne (Or.inl (ww hw 80 rfl)) (Or.inl (ww hw 33 rfl)) (by decide) (t := .int) (t' := .int) (by decide) (by decide))))
  have f96 : Exa Z h86 b48 zs1 := (Exa.wr W86 (Exa.wr W79 (Exa.wr W66 f64)))
  have f97 : Fld Z h86 b48 zs1 "price" zs10 .null := (Fld.other W86 (Fld.other W79 (Fld.other W66 f54 (Or.inl (Ne.symm ne62))) (Or.inl (Ne.symm ne76))) (Or.inl (Ne.symm ne59)))
  have f98 : Fld Z h86 b48 zs1 "priceSteps" "J" (.long q2) := (Fld.other W86 (Fld.other W79 (Fld.other W66 f55 (Or.inl (Ne.symm ne62))) (Or.inl (Ne.symm ne76))) (Or.inl (Ne.symm ne59)))
  have f99 : Fld Z h86 b48 zs1 "first" zs11 .null := (Fld.other W86 (Fld.other W79 (Fld.other W66 f56 (Or.inl (Ne.symm ne62))) (Or.inl (Ne.symm ne76))) (Or.inl (Ne.symm ne59)))
  obtain ⟨fs, hr, hrun, hended, hW, hsame⟩ := X86.leave (v := some (.ref b48)) (fun h => by rw [Bd.returns] at h; cases h)
  refine own_out ⟨_, _, ?_, hrun, hended, _, _, rfl, ?_, ⟨_, rfl⟩, hW, hsame.mono (by decide) (by decide)⟩
  · exact retOut X86 hx Bd.returns rfl (Or.inr (Or.inr (Or.inr (Or.inr ⟨rfl, rfl, rfl⟩)))) (hb hby d5_192) hr
  · show Q5_75 Z a1 q2 a4 a6 a11 q13 kc14 a21 a24 kc25 h0 n0 _ T86.heap _
    rw [e86]
    exact ⟨b48, rfl, N88, ((((Keep.trans ((Keep.trans (Keep.trans (Keep.refl h0 [a21, a11, a1]) K31 (allS (Or.inl (List.mem_of_getElem? (i := 0) rfl)) all0)) K42 (allS (Or.inl (List.mem_of_getElem? (i := 1) rfl)) all0)).ext E48) K52 (allS (Or.inr (Nat.le_trans K31.1 (Nat.le_trans K42.1 (Nat.le_of_eq g48.symm)))) all0)).wr W66 (Or.inl (List.mem_of_getElem? (i := 0) rfl))).wr W79 (Or.inl (List.mem_of_getElem? (i := 1) rfl))).wr W86 (Or.inl (List.mem_of_getElem? (i := 2) rfl))), (Nat.le_trans K31.1 (Nat.le_trans K42.1 (Nat.le_of_eq g48.symm))), f90, f91, f92, f89, f93, f94, f95, f96, f97, f98, f99⟩
def Q5_76 (Z : State) (a1 : Addr) (q2 : Int64) (a4 : Addr) (a6 : Addr) (a11 : Addr) (q13 : Int64) (kc14 : ClassId) (a21 : Addr) (a24 : Addr) (kc25 : ClassId) (h0 : Heap) (n0 : Nat) (v : Option Value) (h : Heap) (L : List Loc) : Prop := v = some (.ref a24) ∧ Fr n0 L ∧ Keep h0 h [a1] ∧ Fld Z h a1 zs2 "side" zs4 (.ref a4) ∧ Fld Z h a1 zs2 "count" "I" (.int 1) ∧ Fld Z h a1 zs2 "ranks" "[J" (.ref a11) ∧ Fld Z h a1 zs2 "levels" zs3 (.ref a21) ∧ Fld Z h a1 zs2 "emptyLevels" "I" (.int (-2))
set_option maxRecDepth 65536 in
set_option maxHeartbeats 40000000 in
theorem rm5_76 (l : Launch) (Z : State) (a0 : Array Value) (hw : ∀ d ∈ tables_1, d.before a0 Z = true) (ws : List Jvm.Cond) (a1 : Addr) (q2 : Int64) (a4 : Addr) (a6 : Addr) (a11 : Addr) (q13 : Int64) (kc14 : ClassId) (a21 : Addr) (a24 : Addr) (kc25 : ClassId) (h0 : Heap) (n0 : Nat) (Z0 : n0 ≤ h0.size) (F5 : Fld Z h0 a1 zs2 "side" zs4 (.ref a4)) (F7 : Sta Z h0 zs6 "BUY" zs4 (.ref a6)) (ha8 : a4 ≠ a6) (F9 : Exa Z h0 a1 zs2) (F10 : Fld Z h0 a1 zs2 "count" "I" (.int 1)) (F12 : Fld Z h0 a1 zs2 "ranks" "[J" (.ref a11)) (F15 : Arv Z h0 a11 kc14 .long (16 : Int32) [(.long q13)] (.long (0 : Int64))) (hc16 : ¬ (q13 < (q2 ^^^ (-1 : Int64)))) (hc17 : ¬ ((q2 ^^^ (-1 : Int64)) = (-9223372036854775808 : Int64))) (hc18 : ¬ ((q2 ^^^ (-1 : Int64)) = (9223372036854775807 : Int64))) (hc19 : q13 = (q2 ^^^ (-1 : Int64))) (F22 : Fld Z h0 a1 zs2 "levels" zs3 (.ref a21)) (F26 : Arv Z h0 a21 kc25 (.object zs1) (16 : Int32) [(.ref a24)] .null) (F30 : Exa Z h0 a24 zs1) (F31 : Fld Z h0 a24 zs1 "first" zs11 .null) (F33 : Fld Z h0 a1 zs2 "emptyLevels" "I" (.int (-1))) (g36 : n0 ≤ a1) (ne41 : a21 ≠ a1) :
    MetFree l zm7 (head1 (Jvm.Cond.code zm7 prog_2_method_5_code 7 (some (.object zs1)) :: ws) ({ frames := 2, cells := 0, slots := 0, locals := 36 } : Room)) (fun a U => a = #[(.ref a1), (.long q2), .null] ∧ Z.Warmed39 U.vm ∧ U.heap = h0) (fun _ _ _ _ _ => True) (fun _ U o U' => ∃ v L, o = .returned v ∧ Q5_76 Z a1 q2 a4 a6 a11 q13 kc14 a21 a24 kc25 h0 n0 v U'.heap L ∧ FrameEnd U o U' L ({ frames := 2, cells := 0, slots := 0, locals := 36 } : Room).cells ({ frames := 2, cells := 0, slots := 0, locals := 36 } : Room).slots) := by
  refine MetFree.of_bodySF (plainFor_of_name pn_com_example_srok_srok_engine_BookSide) hisR ?_
  intro p e s m args below meth c s₁ Bd hml0 hP hK
  obtain ⟨rfl, hZ, hh⟩ := hP
  have hx := Bd.exec
  have hby := Bd.bytes
  have hml : c.maxLocals = 7 := hml0
  have hown : s.vm.findClass zs2 = some m.cls := findClass_of_methodNamed Bd.named
  have hnm := (name_of_methodNamed Bd.named Bd.method).1
  have X0 : Stand p l e ({ frames := 2, cells := 0, slots := 0, locals := 36 } : Room) s m #[(.ref a1), (.long q2), .null] below meth c s₁ [] 0 0 := Stand.of_body Bd
  have e0 : s₁.heap = h0 := by rw [← hh, Bd.state]; rfl
  have N0 := Fr.nil n0
  refine own_pre (g' := mkF m 0 (lc10 a1 q2) []) (ef_7 m a1 q2) ?_
  obtain ⟨_, T3, L3, X3, hQ3, st3⟩ := ocallP X0 hx hZ zm5 hown (ww hw 39 rfl) (ww hw 40 rfl) (own_selP (mvT hZ (ww hw 10 rfl)) (mvP hZ (ww hw 41 rfl)) (mvT hZ (ww hw 40 rfl)) (by decide)) (ww hw 41 rfl) (by decide) (ww hw 42 rfl) (ww hw 11 rfl) e0 F9 (mg6_73 l Z a0 hw [] a1 q2 a4 a6 a11 q13 kc14 h0 n0 Z0 F5 F7 ha8 F9 F10 F12 F15 hc16 hc17 hc18 hc19) (st := [.null, (.long q2), (.ref a1)]) rfl 0 rfl (by decide) (pc := 3) (Ls := (lc10 a1 q2)) hml rfl (lenOf pd_4 rfl) d5_3 hby
  obtain ⟨rfl, N3q, e3⟩ := hQ3
  have N20 := Fr.app N0 N3q
  refine own_go (U' := T3.setTop (mkF m 10 (lc20 a1 q2 0) [(.int 0)])) (fun t k => oaloadN X0 hx hby d5_0 rfl rfl (olloadN X0 hx hby d5_1 rfl (oaloadN X0 hx hby d5_2 rfl rfl (st3 _ (oistore X3 hx hby d5_6 (lc20 a1 q2 0) rfl (oiload X3 hx hby d5_8 rfl k)))))) ?_
  obtain ⟨T23, X23, e23, st23⟩ := getF X3 hx hZ hown (host := "") (Or.inl (ww hw 20 rfl)) Via.refl e3 F22 (g := (mkF m 14 (lc20 a1 q2 0) [(.ref a1)])) rfl rfl (hb hby d5_14)
  obtain ⟨cl27, Ar27, q27, S27, N27, H27, G27⟩ := id F26
  have hin28 : ¬ ((0 : Int32) < 0 ∨ cl27.slots.size ≤ ((0 : Int32)).toNatClampNeg) := inb_of S27 ⟨by decide, by decide⟩
  have hat28 : cl27.slots[((0 : Int32)).toNatClampNeg]? = some (.ref a24) := Has.at H27 hin28 rfl
  obtain ⟨_, T29, L29, X29, hQ29, st29⟩ := ocallV X23 hx hZ zm9 zm9 hown (ww hw 72 rfl) (ww hw 73 rfl) (notFace_of_selects (args := #[]) (mvT hZ (ww hw 75 rfl))) (ww hw 75 rfl) (ww hw 74 rfl) (by decide) (ww hw 76 rfl) (ww hw 59 rfl) e23 F30 (rm11_27 l Z a0 hw [] a24 h0 n0 Z0 F31) (st := [(.ref a24)]) rfl 0 rfl (by decide) (pc := 20) (Ls := (lc20 a1 q2 0)) hml rfl (lenOf pd_8 rfl) d5_20 hby
  obtain ⟨rfl, N29q, e29⟩ := hQ29
  have N32 := Fr.app N20 N29q
  refine own_go (U' := T29.setTop (mkF m 23 (lc20 a1 q2 0) [(.int 1)])) (fun t k => oifN X3 hx hby d5_10 (by decide) (oaloadN X3 hx hby d5_13 rfl rfl (st23 _ (oiload X23 hx hby d5_17 rfl (X23.aaload hx (j := (0 : Int32)) (v := (.ref a24)) (by rw [e23]; exact Ar27.1) (State.isArrayOf_alike hZ.alike Ar27.2.1) rfl Ar27.2.2 hin28 hat28 (g := (mkF m 19 (lc20 a1 q2 0) [(.int 0), (.ref a21)])) rfl rfl (hb hby d5_19) _ (st29 _ k)))))) ?_
  obtain ⟨T34, X34, e34, st34⟩ := getF X29 hx hZ hown (host := "") (Or.inl (ww hw 79 rfl)) Via.refl e29 F33 (g := (mkF m 28 (lc20 a1 q2 0) [(.ref a1), (.ref a1)])) rfl rfl (hb hby d5_28)
  refine own_go (U' := T34.setTop (mkF m 33 (lc20 a1 q2 0) [(.int ((-1 : Int32) - (1 : Int32))), (.ref a1)])) (fun t k => oifN X29 hx hby d5_23 (by decide) (oaloadN X29 hx hby d5_26 rfl rfl (odup X29 hx hby d5_27 rfl (st34 _ (oiconst X34 hx hby d5_31 (oisub X34 hx hby d5_32 k)))))) ?_
  rw [show ((-1 : Int32) - (1 : Int32)) = (-2 : Int32) from by decide]
  obtain ⟨T35, h35, X35, e35, W35, st35⟩ := putF X34 hx hZ hown (host := "") (Or.inl (ww hw 79 rfl)) Via.refl e34 F33 F9 (Or.inl (ww hw 80 rfl)) (ww hw 10 rfl) (ty := .int) (by decide) rfl rfl (g := (mkF m 33 (lc20 a1 q2 0) [(.int (-2)), (.ref a1)])) rfl rfl (hb hby d5_33)
  have N37 := Fr.snoc X35 N32 g36
  have f38 : Fld Z h35 a1 zs2 "emptyLevels" "I" (.int (-2)) := Fld.same W35 F33
  have f39 : Fld Z h35 a1 zs2 "levels" zs3 (.ref a21) := (Fld.other W35 F22 (Or.inr (slot_ne (Or.inl (ww hw 21 rfl)) (Or.inl (ww hw 80 rfl)) (by decide) (t := (.array (.object zs1))) (t' := .int) (by decide) (by decide))))
  obtain ⟨T40, X40, e40, st40⟩ := getF X35 hx hZ hown (host := "") (Or.inl (ww hw 20 rfl)) Via.refl e35 f39 (g := (mkF m 37 (lc20 a1 q2 0) [(.ref a1)])) rfl rfl (hb hby d5_37)
  have f42 : Arv Z h35 a21 kc25 (.object zs1) (16 : Int32) [(.ref a24)] .null := (F26.other W35 ne41)
  obtain ⟨cl43, Ar43, q43, S43, N43, H43, G43⟩ := id f42
  have hin44 : ¬ ((0 : Int32) < 0 ∨ cl43.slots.size ≤ ((0 : Int32)).toNatClampNeg) := inb_of S43 ⟨by decide, by decide⟩
  have hat44 : cl43.slots[((0 : Int32)).toNatClampNeg]? = some (.ref a24) := Has.at H43 hin44 rfl
  refine own_go (U' := T40.setTop (mkF m 43 (lc20 a1 q2 0) [(.ref a24)])) (fun t k => st35 _ (oaloadN X35 hx hby d5_36 rfl rfl (st40 _ (oiload X40 hx hby d5_40 rfl (X40.aaload hx (j := (0 : Int32)) (v := (.ref a24)) (by rw [e40]; exact Ar43.1) (State.isArrayOf_alike hZ.alike Ar43.2.1) rfl Ar43.2.2 hin44 hat44 (g := (mkF m 42 (lc20 a1 q2 0) [(.int 0), (.ref a21)])) rfl rfl (hb hby d5_42) _ k))))) ?_
  have f45 : Fld Z h35 a1 zs2 "side" zs4 (.ref a4) := (Fld.other W35 F5 (Or.inr (slot_ne (Or.inr (ww hw 26 rfl)) (Or.inl (ww hw 80 rfl)) (by decide) (t := (.object zs6)) (t' := .int) (by decide) (by decide))))
  have f46 : Fld Z h35 a1 zs2 "count" "I" (.int 1) := (Fld.other W35 F10 (Or.inr (slot_ne (Or.inl (ww hw 33 rfl)) (Or.inl (ww hw 80 rfl)) (by decide) (t := .int) (t' := .int) (by decide) (by decide))))
  have f47 : Fld Z h35 a1 zs2 "ranks" "[J" (.ref a11) := (Fld.other W35 F12 (Or.inr (slot_ne (Or.inl (ww hw 24 rfl)) (Or.inl (ww hw 80 rfl)) (by decide) (t := (.array .long)) (t' := .int) (by decide) (by decide))))
  obtain ⟨fs, hr, hrun, hended, hW, hsame⟩ := X40.leave (v := some (.ref a24)) (fun h => by rw [Bd.returns] at h; cases h)
  refine own_out ⟨_, _, ?_, hrun, hended, _, _, rfl, ?_, ⟨_, rfl⟩, hW, hsame.mono (by decide) (by decide)⟩
  · exact retOut X40 hx Bd.returns rfl (Or.inr (Or.inr (Or.inr (Or.inr ⟨rfl, rfl, rfl⟩)))) (hb hby d5_43) hr
  · show Q5_76 Z a1 q2 a4 a6 a11 q13 kc14 a21 a24 kc25 h0 n0 _ T40.heap _
    rw [e40]
    exact ⟨rfl, N37, ((Keep.refl h0 [a1]).wr W35 (Or.inl (List.mem_of_getElem? (i := 0) rfl))), f45, f46, f47, f39, f38⟩
def Q6_77 (Z : State) (a1 : Addr) (q2 : Int64) (a4 : Addr) (a6 : Addr) (a14 : Addr) (q17 : Int64) (kc18 : ClassId) (h0 : Heap) (n0 : Nat) (v : Option Value) (h : Heap) (L : List Loc) : Prop := v = some (.int (-1)) ∧ Fr n0 L ∧ h = h0
set_option maxRecDepth 65536 in
set_option maxHeartbeats 40000000 in
theorem rm6_77 (l : Launch) (Z : State) (a0 : Array Value) (hw : ∀ d ∈ tables_1, d.before a0 Z = true) (ws : List Jvm.Cond) (a1 : Addr) (q2 : Int64) (a4 : Addr) (a6 : Addr) (a14 : Addr) (q17 : Int64) (kc18 : ClassId) (h0 : Heap) (n0 : Nat) (Z0 : n0 ≤ h0.size) (F5 : Fld Z h0 a1 zs2 "side" zs4 (.ref a4)) (F7 : Sta Z h0 zs6 "BUY" zs4 (.ref a6)) (ha8 : a4 ≠ a6) (F9 : Exa Z h0 a1 zs2) (F12 : Fld Z h0 a1 zs2 "count" "I" (.int 1)) (F15 : Fld Z h0 a1 zs2 "ranks" "[J" (.ref a14)) (F19 : Arv Z h0 a14 kc18 .long (16 : Int32) [(.long q17)] (.long (0 : Int64))) (hc22 : ¬ (q17 < (q2 ^^^ (-1 : Int64)))) (hc26 : ¬ ((q2 ^^^ (-1 : Int64)) = (-9223372036854775808 : Int64))) (hc28 : ¬ ((q2 ^^^ (-1 : Int64)) = (9223372036854775807 : Int64))) (hc34 : ¬ (q17 = (q2 ^^^ (-1 : Int64)))) :
    MetFree l zm5 (head1 (Jvm.Cond.code zm5 prog_2_method_8_code 11 (some .int) :: ws) ({ frames := 1, cells := 0, slots := 0, locals := 14 } : Room)) (fun a U => a = #[(.ref a1), (.long q2), .null] ∧ Z.Warmed39 U.vm ∧ U.heap = h0) (fun _ _ _ _ _ => True) (fun _ U o U' => ∃ v L, o = .returned v ∧ Q6_77 Z a1 q2 a4 a6 a14 q17 kc18 h0 n0 v U'.heap L ∧ FrameEnd U o U' L ({ frames := 1, cells := 0, slots := 0, locals := 14 } : Room).cells ({ frames := 1, cells := 0, slots := 0, locals := 14 } : Room).slots) := by
  refine MetFree.of_bodySF (plainFor_of_name pn_com_example_srok_srok_engine_BookSide) hisR ?_
  intro p e s m args below meth c s₁ Bd hml0 hP hK
  obtain ⟨rfl, hZ, hh⟩ := hP
  have hx := Bd.exec
  have hby := Bd.bytes
  have hml : c.maxLocals = 11 := hml0
  have hown : s.vm.findClass zs2 = some m.cls := findClass_of_methodNamed Bd.named
  have hnm := (name_of_methodNamed Bd.named Bd.method).1
  have X0 : Stand p l e ({ frames := 1, cells := 0, slots := 0, locals := 14 } : Room) s m #[(.ref a1), (.long q2), .null] below meth c s₁ [] 0 0 := Stand.of_body Bd
  have e0 : s₁.heap = h0 := by rw [← hh, Bd.state]; rfl
  have N0 := Fr.nil n0
  refine own_pre (g' := mkF m 0 (lc11 a1 q2) []) (ef_5 m a1 q2) ?_
  obtain ⟨_, T3, L3, X3, hQ3, st3⟩ := ocallP X0 hx hZ zm3 hown (ww hw 43 rfl) (ww hw 44 rfl) (own_selP (mvT hZ (ww hw 10 rfl)) (mvP hZ (ww hw 45 rfl)) (mvT hZ (ww hw 44 rfl)) (by decide)) (ww hw 45 rfl) (by decide) (ww hw 46 rfl) (ww hw 11 rfl) e0 F9 (rm7_48 l Z a0 hw [] a1 q2 a4 a6 h0 n0 Z0 F5 F7 ha8) (st := [(.long q2), (.ref a1)]) rfl 0 rfl (by decide) (pc := 2) (Ls := (lc11 a1 q2)) hml rfl (lenOf pd_0 rfl) d6_2 hby
  obtain ⟨rfl, N3q, e3⟩ := hQ3
  have N10 := Fr.app N0 N3q
  refine own_go (U' := T3.setTop (mkF m 7 (lc13 a1 q2 (q2 ^^^ (-1 : Int64))) [])) (fun t k => oaloadN X0 hx hby d6_0 rfl rfl (olloadN X0 hx hby d6_1 rfl (st3 _ (olstore X3 hx hby d6_5 (lc13 a1 q2 (q2 ^^^ (-1 : Int64))) rfl k)))) ?_
  obtain ⟨z11, hz11⟩ : ∃ z, z = (q2 ^^^ (-1 : Int64)) := ⟨_, rfl⟩
  rw [← hz11]
  obtain ⟨T13, X13, e13, st13⟩ := getF X3 hx hZ hown (host := "") (Or.inl (ww hw 32 rfl)) Via.refl e3 F12 (g := (mkF m 8 (lc13 a1 q2 z11) [(.ref a1)])) rfl rfl (hb hby d6_8)
  refine own_go (U' := T13.setTop (mkF m 21 (lc15 a1 q2 z11 1 1) [(.int 0)])) (fun t k => oaloadN X3 hx hby d6_7 rfl rfl (st13 _ (oistore X13 hx hby d6_11 (lc14 a1 q2 z11 1) rfl (oiconst X13 hx hby d6_13 (oistore X13 hx hby d6_14 (lc15 a1 q2 z11 1 1) rfl (oiload X13 hx hby d6_16 rfl (oiload X13 hx hby d6_18 rfl (oisub X13 hx hby d6_20 k)))))))) ?_
  obtain ⟨T16, X16, e16, st16⟩ := getF X13 hx hZ hown (host := "") (Or.inl (ww hw 23 rfl)) Via.refl e13 F15 (g := (mkF m 25 (lc15 a1 q2 z11 1 1) [(.ref a1)])) rfl rfl (hb hby d6_25)
  obtain ⟨cl20, Ar20, q20, S20, N20, H20, G20⟩ := id F19
  have hin21 : ¬ ((0 : Int32) < 0 ∨ cl20.slots.size ≤ ((0 : Int32)).toNatClampNeg) := inb_of S20 ⟨by decide, by decide⟩
  have hat21 : cl20.slots[((0 : Int32)).toNatClampNeg]? = some (.long q17) := Has.at H20 hin21 rfl
  refine own_go (U' := T16.setTop (mkF m 37 (lc15 a1 q2 z11 1 1) [(.int (lcmpW q17 z11))])) (fun t k => oifN X13 hx hby d6_21 (by decide) (oaloadN X13 hx hby d6_24 rfl rfl (st16 _ (oiload X16 hx hby d6_28 rfl (oiload X16 hx hby d6_30 rfl (oisub X16 hx hby d6_32 (X16.laload hx (j := (0 : Int32)) (v := (.long q17)) (by rw [e16]; exact Ar20.1) (State.isArrayOf_alike hZ.alike Ar20.2.1) Ar20.2.2 hin21 hat21 (g := (mkF m 33 (lc15 a1 q2 z11 1 1) [(.int 0), (.ref a14)])) rfl rfl (hb hby d6_33) _ (olload X16 hx hby d6_34 rfl (olcmp X16 hx hby d6_36 k))))))))) ?_
  have hs23 : ¬ (q17 < z11) := by rw [hz11]; exact hc22
  refine own_go (U' := T16.setTop (mkF m 16 (lc15 a1 q2 z11 0 2) [])) (fun t k => oifN X16 hx hby d6_37 (own_ll_lt_f hs23) (oiload X16 hx hby d6_40 rfl (oiload X16 hx hby d6_42 rfl (oisub X16 hx hby d6_44 (oistore X16 hx hby d6_45 (lc15 a1 q2 z11 0 1) rfl (oiload X16 hx hby d6_47 rfl (oiconst X16 hx hby d6_49 (oimul X16 hx hby d6_50 (oistore X16 hx hby d6_51 (lc15 a1 q2 z11 0 2) rfl (ogoto (pc := 53) X16 hx hby d6_53 16 (by decide) k)))))))))) ?_
  refine own_go (U' := T16.setTop (mkF m 21 (lc15 a1 q2 z11 0 2) [(.int ((0 : Int32) - (2 : Int32)))])) (fun t k => oiload X16 hx hby d6_16 rfl (oiload X16 hx hby d6_18 rfl (oisub X16 hx hby d6_20 k))) ?_
  rw [show ((0 : Int32) - (2 : Int32)) = (-2 : Int32) from by decide]
  refine own_go (U' := T16.setTop (mkF m 62 (lc15 a1 q2 z11 0 2) [(.int ((0 : Int32) - (2 : Int32))), (.int 0)])) (fun t k => oifY (pc := 21) X16 hx hby d6_21 56 (by decide) (by decide) (oiconst X16 hx hby d6_56 (oiload X16 hx hby d6_57 rfl (oiload X16 hx hby d6_59 rfl (oisub X16 hx hby d6_61 k))))) ?_
  rw [show ((0 : Int32) - (2 : Int32)) = (-2 : Int32) from by decide]
  refine own_go (U' := T16.setTop (mkF m 64 (lc15 a1 q2 z11 0 2) [(.int ((-2 : Int32) + (1 : Int32))), (.int 0)])) (fun t k => oiconst X16 hx hby d6_62 (oiadd X16 hx hby d6_63 k)) ?_
  rw [show ((-2 : Int32) + (1 : Int32)) = (-1 : Int32) from by decide]
  obtain ⟨_, T24, L24, X24, hQ24, st24⟩ := ocallS X16 hx hZ zm4 hown (ww hw 48 rfl) (ww hw 49 rfl) (by decide) (ww hw 51 rfl) (ww hw 50 rfl) e16 (rm8_14 l Z a0 hw []  h0 n0 Z0 ) (st := [(.int (-1)), (.int 0)]) rfl 0 rfl (by decide) (pc := 64) (Ls := (lc15 a1 q2 z11 0 2)) hml rfl (lenOf pd_3 rfl) d6_64 hby
  obtain ⟨rfl, N24q, e24⟩ := hQ24
  have N25 := Fr.app N10 N24q
  refine own_go (U' := T24.setTop (mkF m 79 (lc18 a1 q2 z11 0 2 0 0) [(.int 1), (.int 0)])) (fun t k => st24 _ (oistore X24 hx hby d6_67 (lc17 a1 q2 z11 0 2 0) rfl (oiload X24 hx hby d6_69 rfl (oiload X24 hx hby d6_71 rfl (oisub X24 hx hby d6_73 (oistore X24 hx hby d6_74 (lc18 a1 q2 z11 0 2 0 0) rfl (oiload X24 hx hby d6_76 rfl (oiconst X24 hx hby d6_78 k)))))))) ?_
  refine own_go (U' := T24.setTop (mkF m 132 (lc18 a1 q2 z11 0 2 0 0) [(.int 0), (.int 0)])) (fun t k => oicY (pc := 79) X24 hx hby d6_79 128 (by decide) (by decide) (oiload X24 hx hby d6_128 rfl (oiload X24 hx hby d6_130 rfl k))) ?_
  refine own_go (U' := T24.setTop (mkF m 157 (lc18 a1 q2 z11 0 2 0 0) [(.int (lcmpW z11 (-9223372036854775808 : Int64)))])) (fun t k => oicY (pc := 132) X24 hx hby d6_132 151 (by decide) (by decide) (olload X24 hx hby d6_151 rfl (X24.ldc2Long hx hown (mvT hZ (ww hw 52 rfl)) (g := (mkF m 153 (lc18 a1 q2 z11 0 2 0 0) [(.long z11)])) rfl (hb hby d6_153) _ (olcmp X24 hx hby d6_156 k)))) ?_
  have hs27 : ¬ (z11 = (-9223372036854775808 : Int64)) := by rw [hz11]; exact hc26
  refine own_go (U' := T24.setTop (mkF m 166 (lc18 a1 q2 z11 0 2 0 0) [(.int (lcmpW z11 (9223372036854775807 : Int64)))])) (fun t k => oifN X24 hx hby d6_157 (own_ll_eq_f hs27) (olload X24 hx hby d6_160 rfl (X24.ldc2Long hx hown (mvT hZ (ww hw 53 rfl)) (g := (mkF m 162 (lc18 a1 q2 z11 0 2 0 0) [(.long z11)])) rfl (hb hby d6_162) _ (olcmp X24 hx hby d6_165 k)))) ?_
  have hs29 : ¬ (z11 = (9223372036854775807 : Int64)) := by rw [hz11]; exact hc28
  refine own_go (U' := T24.setTop (mkF m 178 (lc18 a1 q2 z11 0 2 0 1) [(.int 1)])) (fun t k => oifN X24 hx hby d6_166 (own_ll_eq_f hs29) (oiconst X24 hx hby d6_169 (ogoto (pc := 170) X24 hx hby d6_170 174 (by decide) (oistore X24 hx hby d6_174 (lc18 a1 q2 z11 0 2 0 1) rfl (oiload X24 hx hby d6_176 rfl k))))) ?_
  obtain ⟨T30, X30, e30, st30⟩ := getF X24 hx hZ hown (host := "") (Or.inl (ww hw 32 rfl)) Via.refl e24 F12 (g := (mkF m 230 (lc18 a1 q2 z11 0 2 0 1) [(.ref a1), (.int 0)])) rfl rfl (hb hby d6_230)
  refine own_go (U' := T30.setTop (mkF m 233 (lc18 a1 q2 z11 0 2 0 1) [(.int 1), (.int 0)])) (fun t k => oifY (pc := 178) X24 hx hby d6_178 227 (by decide) (by decide) (oiload X24 hx hby d6_227 rfl (oaloadN X24 hx hby d6_229 rfl rfl (st30 _ k)))) ?_
  obtain ⟨T31, X31, e31, st31⟩ := getF X30 hx hZ hown (host := "") (Or.inl (ww hw 23 rfl)) Via.refl e30 F15 (g := (mkF m 237 (lc18 a1 q2 z11 0 2 0 1) [(.ref a1)])) rfl rfl (hb hby d6_237)
  obtain ⟨cl32, Ar32, q32, S32, N32, H32, G32⟩ := id F19
  have hin33 : ¬ ((0 : Int32) < 0 ∨ cl32.slots.size ≤ ((0 : Int32)).toNatClampNeg) := inb_of S32 ⟨by decide, by decide⟩
  have hat33 : cl32.slots[((0 : Int32)).toNatClampNeg]? = some (.long q17) := Has.at H32 hin33 rfl
  refine own_go (U' := T31.setTop (mkF m 246 (lc18 a1 q2 z11 0 2 0 1) [(.int (lcmpW q17 z11))])) (fun t k => oicN X30 hx hby d6_233 (by decide) (oaloadN X30 hx hby d6_236 rfl rfl (st31 _ (oiload X31 hx hby d6_240 rfl (X31.laload hx (j := (0 : Int32)) (v := (.long q17)) (by rw [e31]; exact Ar32.1) (State.isArrayOf_alike hZ.alike Ar32.2.1) Ar32.2.2 hin33 hat33 (g := (mkF m 242 (lc18 a1 q2 z11 0 2 0 1) [(.int 0), (.ref a14)])) rfl rfl (hb hby d6_242) _ (olload X31 hx hby d6_243 rfl (olcmp X31 hx hby d6_245 k))))))) ?_
  have hs35 : ¬ (q17 = z11) := by rw [hz11]; exact hc34
  refine own_go (U' := T31.setTop (mkF m 280 (lc19 a1 q2 z11 0 2 0 1 0) [(.int 0)])) (fun t k => oifY (pc := 246) X31 hx hby d6_246 275 (own_ll_ne_t hs35) (by decide) (oiconst X31 hx hby d6_275 (oistore X31 hx hby d6_276 (lc19 a1 q2 z11 0 2 0 1 0) rfl (oiload X31 hx hby d6_278 rfl k)))) ?_
  refine own_go (U' := T31.setTop (mkF m 292 (lc19 a1 q2 z11 0 2 0 1 0) [(.int ((-1 : Int32) - (0 : Int32)))])) (fun t k => oifY (pc := 280) X31 hx hby d6_280 288 (by decide) (by decide) (oiconst X31 hx hby d6_288 (oiload X31 hx hby d6_289 rfl (oisub X31 hx hby d6_291 k)))) ?_
  rw [show ((-1 : Int32) - (0 : Int32)) = (-1 : Int32) from by decide]
  obtain ⟨fs, hr, hrun, hended, hW, hsame⟩ := X31.leave (v := some (.int (-1))) (fun h => by rw [Bd.returns] at h; cases h)
  refine own_out ⟨_, _, ?_, hrun, hended, _, _, rfl, ?_, ⟨_, rfl⟩, hW, hsame.mono (by decide) (by decide)⟩
  · exact retI X31 hx Bd.returns (hb hby d6_292) hr
  · show Q6_77 Z a1 q2 a4 a6 a14 q17 kc18 h0 n0 _ T31.heap _
    rw [e31]
    exact ⟨rfl, N25, rfl⟩
def Qmg6_78 (Z : State) (a1 : Addr) (q2 : Int64) (a3 : Addr) (a5 : Addr) (a10 : Addr) (q12 : Int64) (kc13 : ClassId) (h0 : Heap) (n0 : Nat) (v : Option Value) (h : Heap) (L : List Loc) : Prop := v = some (.int (-1)) ∧ Fr n0 L ∧ h = h0
theorem mg6_78 (l : Launch) (Z : State) (a0 : Array Value) (hw : ∀ d ∈ tables_1, d.before a0 Z = true) (ws : List Jvm.Cond) (a1 : Addr) (q2 : Int64) (a3 : Addr) (a5 : Addr) (a10 : Addr) (q12 : Int64) (kc13 : ClassId) (h0 : Heap) (n0 : Nat) (Z0 : n0 ≤ h0.size) (F4 : Fld Z h0 a1 zs2 "side" zs4 (.ref a3)) (F6 : Sta Z h0 zs6 "BUY" zs4 (.ref a5)) (ha7 : a3 ≠ a5) (F8 : Exa Z h0 a1 zs2) (F9 : Fld Z h0 a1 zs2 "count" "I" (.int 1)) (F11 : Fld Z h0 a1 zs2 "ranks" "[J" (.ref a10)) (F14 : Arv Z h0 a10 kc13 .long (16 : Int32) [(.long q12)] (.long (0 : Int64))) (hc15 : ¬ (q12 < (q2 ^^^ (-1 : Int64)))) (hc16 : ¬ ((q2 ^^^ (-1 : Int64)) = (-9223372036854775808 : Int64))) (hc17 : ¬ ((q2 ^^^ (-1 : Int64)) = (9223372036854775807 : Int64))) (hc18 : ¬ (q12 = (q2 ^^^ (-1 : Int64)))) :
    MetFree l zm5 (head1 (Jvm.Cond.code zm5 prog_2_method_8_code 11 (some .int) :: ws) ({ frames := 1, cells := 0, slots := 0, locals := 14 } : Room)) (fun a U => a = #[(.ref a1), (.long q2), .null] ∧ Z.Warmed39 U.vm ∧ U.heap = h0) (fun _ _ _ _ _ => True) (fun _ U o U' => ∃ v L, o = .returned v ∧ Qmg6_78 Z a1 q2 a3 a5 a10 q12 kc13 h0 n0 v U'.heap L ∧ FrameEnd U o U' L ({ frames := 1, cells := 0, slots := 0, locals := 14 } : Room).cells ({ frames := 1, cells := 0, slots := 0, locals := 14 } : Room).slots) := by
  exact rm6_77 l Z a0 hw ws a1 q2 a3 a5 a10 q12 kc13 h0 n0 Z0 F4 F6 ha7 F8 F9 F11 F14 hc15 hc16 hc17 hc18
def Q5_79 (Z : State) (a1 : Addr) (q2 : Int64) (a4 : Addr) (a6 : Addr) (a11 : Addr) (q13 : Int64) (kc14 : ClassId) (a22 : Addr) (a25 : Addr) (kc26 : ClassId) (h0 : Heap) (n0 : Nat) (v : Option Value) (h : Heap) (L : List Loc) : Prop := ∃ b50 : Addr, v = some (.ref b50) ∧ Fr n0 L ∧ Keep h0 h [a22, a11, a1] ∧ h0.size ≤ b50 ∧ Arv Z h a22 kc26 (.object zs1) (16 : Int32) [(.ref b50), (.ref a25)] .null ∧ Arv Z h a11 kc14 .long (16 : Int32) [(.long (q2 ^^^ (-1 : Int64))), (.long q13)] (.long (0 : Int64)) ∧ Fld Z h a1 zs2 "side" zs4 (.ref a4) ∧ Fld Z h a1 zs2 "count" "I" (.int 2) ∧ Fld Z h a1 zs2 "ranks" "[J" (.ref a11) ∧ Fld Z h a1 zs2 "levels" zs3 (.ref a22) ∧ Fld Z h a1 zs2 "emptyLevels" "I" (.int (-1)) ∧ Exa Z h b50 zs1 ∧ Fld Z h b50 zs1 "price" zs10 .null ∧ Fld Z h b50 zs1 "priceSteps" "J" (.long q2) ∧ Fld Z h b50 zs1 "first" zs11 .null
set_option maxRecDepth 65536 in
set_option maxHeartbeats 40000000 in
theorem rm5_79 (l : Launch) (Z : State) (a0 : Array Value) (hw : ∀ d ∈ tables_1, d.before a0 Z = true) (ws : List Jvm.Cond) (a1 : Addr) (q2 : Int64) (a4 : Addr) (a6 : Addr) (a11 : Addr) (q13 : Int64) (kc14 : ClassId) (a22 : Addr) (a25 : Addr) (kc26 : ClassId) (h0 : Heap) (n0 : Nat) (Z0 : n0 ≤ h0.size) (F5 : Fld Z h0 a1 zs2 "side" zs4 (.ref a4)) (F7 : Sta Z h0 zs6 "BUY" zs4 (.ref a6)) (ha8 : a4 ≠ a6) (F9 : Exa Z h0 a1 zs2) (F10 : Fld Z h0 a1 zs2 "count" "I" (.int 1)) (F12 : Fld Z h0 a1 zs2 "ranks" "[J" (.ref a11)) (F15 : Arv Z h0 a11 kc14 .long (16 : Int32) [(.long q13)] (.long (0 : Int64))) (hc16 : ¬ (q13 < (q2 ^^^ (-1 : Int64)))) (hc17 : ¬ ((q2 ^^^ (-1 : Int64)) = (-9223372036854775808 : Int64))) (hc18 : ¬ ((q2 ^^^ (-1 : Int64)) = (9223372036854775807 : Int64))) (hc19 : ¬ (q13 = (q2 ^^^ (-1 : Int64)))) (F23 : Fld Z h0 a1 zs2 "levels" zs3 (.ref a22)) (F27 : Arv Z h0 a22 kc26 (.object zs1) (16 : Int32) [(.ref a25)] .null) (g34 : n0 ≤ a22) (O35 : Ovr Z kc26 zs1) (F36 : Exa Z h0 a25 zs1) (ne38 : a1 ≠ a22) (ne45 : a11 ≠ a22) (g48 : n0 ≤ a11) (ne60 : a1 ≠ a11) (F86 : Fld Z h0 a1 zs2 "emptyLevels" "I" (.int (-1))) (g89 : n0 ≤ a1) :
    MetFree l zm7 (head1 (Jvm.Cond.code zm7 prog_2_method_5_code 7 (some (.object zs1)) :: ws) ({ frames := 2, cells := 1, slots := 4, locals := 36 } : Room)) (fun a U => a = #[(.ref a1), (.long q2), .null] ∧ Z.Warmed39 U.vm ∧ U.heap = h0) (fun _ _ _ _ _ => True) (fun _ U o U' => ∃ v L, o = .returned v ∧ Q5_79 Z a1 q2 a4 a6 a11 q13 kc14 a22 a25 kc26 h0 n0 v U'.heap L ∧ FrameEnd U o U' L ({ frames := 2, cells := 1, slots := 4, locals := 36 } : Room).cells ({ frames := 2, cells := 1, slots := 4, locals := 36 } : Room).slots) := by
  refine MetFree.of_bodySF (plainFor_of_name pn_com_example_srok_srok_engine_BookSide) hisR ?_
  intro p e s m args below meth c s₁ Bd hml0 hP hK
  obtain ⟨rfl, hZ, hh⟩ := hP
  have hx := Bd.exec
  have hby := Bd.bytes
  have hml : c.maxLocals = 7 := hml0
  have hown : s.vm.findClass zs2 = some m.cls := findClass_of_methodNamed Bd.named
  have hnm := (name_of_methodNamed Bd.named Bd.method).1
  have X0 : Stand p l e ({ frames := 2, cells := 1, slots := 4, locals := 36 } : Room) s m #[(.ref a1), (.long q2), .null] below meth c s₁ [] 0 0 := Stand.of_body Bd
  have e0 : s₁.heap = h0 := by rw [← hh, Bd.state]; rfl
  have N0 := Fr.nil n0
  refine own_pre (g' := mkF m 0 (lc10 a1 q2) []) (ef_7 m a1 q2) ?_
  obtain ⟨_, T3, L3, X3, hQ3, st3⟩ := ocallP X0 hx hZ zm5 hown (ww hw 39 rfl) (ww hw 40 rfl) (own_selP (mvT hZ (ww hw 10 rfl)) (mvP hZ (ww hw 41 rfl)) (mvT hZ (ww hw 40 rfl)) (by decide)) (ww hw 41 rfl) (by decide) (ww hw 42 rfl) (ww hw 11 rfl) e0 F9 (mg6_78 l Z a0 hw [] a1 q2 a4 a6 a11 q13 kc14 h0 n0 Z0 F5 F7 ha8 F9 F10 F12 F15 hc16 hc17 hc18 hc19) (st := [.null, (.long q2), (.ref a1)]) rfl 0 rfl (by decide) (pc := 3) (Ls := (lc10 a1 q2)) hml rfl (lenOf pd_4 rfl) d5_3 hby
  obtain ⟨rfl, N3q, e3⟩ := hQ3
  have N20 := Fr.app N0 N3q
  refine own_go (U' := T3.setTop (mkF m 10 (lc20 a1 q2 (-1)) [(.int (-1))])) (fun t k => oaloadN X0 hx hby d5_0 rfl rfl (olloadN X0 hx hby d5_1 rfl (oaloadN X0 hx hby d5_2 rfl rfl (st3 _ (oistore X3 hx hby d5_6 (lc20 a1 q2 (-1)) rfl (oiload X3 hx hby d5_8 rfl k)))))) ?_
  refine own_go (U' := T3.setTop (mkF m 47 (lc20 a1 q2 (-1)) [(.int (-(-1 : Int32)))])) (fun t k => oifY (pc := 10) X3 hx hby d5_10 44 (by decide) (by decide) (oiload X3 hx hby d5_44 rfl (oineg X3 hx hby d5_46 k))) ?_
  rw [show (-(-1 : Int32)) = (1 : Int32) from by decide]
  obtain ⟨T21, X21, e21, st21⟩ := getF X3 hx hZ hown (host := "") (Or.inl (ww hw 32 rfl)) Via.refl e3 F10 (g := (mkF m 52 (lc21 a1 q2 (-1) 0) [(.ref a1)])) rfl rfl (hb hby d5_52)
  obtain ⟨T24, X24, e24, st24⟩ := getF X21 hx hZ hown (host := "") (Or.inl (ww hw 20 rfl)) Via.refl e21 F23 (g := (mkF m 56 (lc21 a1 q2 (-1) 0) [(.ref a1), (.int 1)])) rfl rfl (hb hby d5_56)
  refine own_go (U' := T24.setTop (mkF m 59 (lc21 a1 q2 (-1) 0) [(.ref a22), (.int 1)])) (fun t k => oiconst X3 hx hby d5_47 (oisub X3 hx hby d5_48 (oistore X3 hx hby d5_49 (lc21 a1 q2 (-1) 0) rfl (oaloadN X3 hx hby d5_51 rfl rfl (st21 _ (oaloadN X21 hx hby d5_55 rfl rfl (st24 _ k))))))) ?_
  obtain ⟨cl28, Ar28, q28, S28, N28, H28, G28⟩ := id F27
  refine own_go (fun t k => X24.arraylength hx (by rw [e24]; exact Ar28.1) (State.isArrayOf_alike hZ.alike Ar28.2.1) (g := (mkF m 59 (lc21 a1 q2 (-1) 0) [(.ref a22), (.int 1)])) rfl rfl (hb hby d5_59) _ k) ?_
  rw [len_of S28 N28]
  obtain ⟨T29, X29, e29, st29⟩ := getF X24 hx hZ hown (host := "") (Or.inl (ww hw 20 rfl)) Via.refl e24 F23 (g := (mkF m 101 (lc21 a1 q2 (-1) 0) [(.ref a1)])) rfl rfl (hb hby d5_101)
  obtain ⟨T30, X30, e30, st30⟩ := getF X29 hx hZ hown (host := "") (Or.inl (ww hw 20 rfl)) Via.refl e29 F23 (g := (mkF m 107 (lc21 a1 q2 (-1) 0) [(.ref a1), (.int 0), (.ref a22)])) rfl rfl (hb hby d5_107)
  obtain ⟨T31, X31, e31, st31⟩ := getF X30 hx hZ hown (host := "") (Or.inl (ww hw 32 rfl)) Via.refl e30 F10 (g := (mkF m 115 (lc21 a1 q2 (-1) 0) [(.ref a1), (.int 1), (.ref a22), (.int 0), (.ref a22)])) rfl rfl (hb hby d5_115)
  have f33 : Arv Z h0 a22 kc26 (.object zs1) (16 : Int32) [(.ref a25), .null] .null := F27.pad (pad_rep [(.ref a25)] .null 1)
  obtain ⟨cl32, Ar32, q32, -⟩ := id f33
  obtain ⟨T32, h32, L32, X32, e32, N32, K32, V32, st32⟩ := cpA X31 hx hZ hown (ww hw 54 rfl) (ww hw 57 rfl) (ww hw 55 rfl) (ww hw 56 rfl) e31 (us := [(.ref a25)]) f33 f33 (Or.inr ⟨rfl, rfl, ⟨(Sto.ofV Ar32 q32 O35 (Ins.self F36)), trivial⟩⟩) (by decide) (by decide) (by decide) (by decide) (by decide) rfl (Nat.le_of_ble_eq_true rfl) N20 g34 (g := (mkF m 121 (lc21 a1 q2 (-1) 0) [(.int 1), (.int 1), (.ref a22), (.int 0), (.ref a22)])) rfl (by rw [hml]; rfl) rfl (hb hby d5_121) (by decide) (W := 0) (by show 2 * 0 + _ ≤ _; exact Nat.le_of_eq rfl) (by decide)
  have f37 : Arv Z h32 a22 kc26 (.object zs1) (16 : Int32) [(.ref a25), (.ref a25)] .null := V32
  have f39 : Fld Z h32 a1 zs2 "ranks" "[J" (.ref a11) := (F12.keep K32 (ninS ne38 nin0))
  obtain ⟨T40, X40, e40, st40⟩ := getF X32 hx hZ hown (host := "") (Or.inl (ww hw 23 rfl)) Via.refl e32 f39 (g := (mkF m 125 (lc21 a1 q2 (-1) 0) [(.ref a1)])) rfl rfl (hb hby d5_125)
  obtain ⟨T41, X41, e41, st41⟩ := getF X40 hx hZ hown (host := "") (Or.inl (ww hw 23 rfl)) Via.refl e40 f39 (g := (mkF m 131 (lc21 a1 q2 (-1) 0) [(.ref a1), (.int 0), (.ref a11)])) rfl rfl (hb hby d5_131)
  have f42 : Fld Z h32 a1 zs2 "count" "I" (.int 1) := (F10.keep K32 (ninS ne38 nin0))
  obtain ⟨T43, X43, e43, st43⟩ := getF X41 hx hZ hown (host := "") (Or.inl (ww hw 32 rfl)) Via.refl e41 f42 (g := (mkF m 139 (lc21 a1 q2 (-1) 0) [(.ref a1), (.int 1), (.ref a11), (.int 0), (.ref a11)])) rfl rfl (hb hby d5_139)
  have f46 : Arv Z h32 a11 kc14 .long (16 : Int32) [(.long q13)] (.long (0 : Int64)) := (F15.keep K32 (ninS ne45 nin0))
  have f47 : Arv Z h32 a11 kc14 .long (16 : Int32) [(.long q13), (.long 0)] (.long (0 : Int64)) := f46.pad (pad_rep [(.long q13)] (.long (0 : Int64)) 1)
  obtain ⟨T44, h44, L44, X44, e44, N44, K44, V44, st44⟩ := cpA X43 hx hZ hown (ww hw 54 rfl) (ww hw 57 rfl) (ww hw 55 rfl) (ww hw 56 rfl) e43 (us := [(.long q13)]) f47 f47 (Or.inl ⟨rfl, rfl⟩) (by decide) (by decide) (by decide) (by decide) (by decide) rfl (Nat.le_of_ble_eq_true rfl) N32 g48 (g := (mkF m 145 (lc21 a1 q2 (-1) 0) [(.int 1), (.int 1), (.ref a11), (.int 0), (.ref a11)])) rfl (by rw [hml]; rfl) rfl (hb hby d5_145) (by decide) (W := 0) (by show 2 * 0 + _ ≤ _; exact Nat.le_of_eq rfl) (by decide)
  have f49 : Arv Z h44 a11 kc14 .long (16 : Int32) [(.long q13), (.long q13)] (.long (0 : Int64)) := V44
  obtain ⟨T50, h50, X50, e50, E50, A50, D50, -, st50⟩ := newO X44 hx hZ hown (ww hw 18 rfl) (ww hw 58 rfl) (ww hw 59 rfl) e44 (g := (mkF m 148 (lc21 a1 q2 (-1) 0) [])) rfl (hb hby d5_148) (by decide) (by decide)
  obtain ⟨b50, g50⟩ : ∃ z, z = h44.size := ⟨_, rfl⟩
  rw [← g50] at A50 D50 st50
  have f51 : Fld Z h50 b50 zs1 "price" zs10 .null := D50 (Or.inr (ww hw 65 rfl)) (ty := (.object zs13)) (by decide)
  have f52 : Fld Z h50 b50 zs1 "priceSteps" "J" (.long 0) := D50 (Or.inr (ww hw 67 rfl)) (ty := .long) (by decide)
  have f53 : Fld Z h50 b50 zs1 "first" zs11 .null := D50 (Or.inl (ww hw 78 rfl)) (ty := (.object zs14)) (by decide)
  have Z_1 : n0 ≤ h32.size := Nat.le_trans Z0 K32.1
  have Z_2 : n0 ≤ h44.size := Nat.le_trans Z_1 K44.1
  have g55 : n0 ≤ b50 := Nat.le_trans Z_2 (Nat.le_of_eq g50.symm)
  have Z_3 : n0 ≤ h50.size := Nat.le_trans Z_2 E50.1
  obtain ⟨_, T54, L54, X54, hQ54, st54⟩ := ocallI X50 hx hZ zm6 rfl hown (ww hw 60 rfl) (ww hw 61 rfl) (by decide) (ww hw 62 rfl) (ww hw 59 rfl) e50 (rm9_10 l Z a0 hw [] b50 q2 h50 n0 Z_3 f51 f52 f53 A50 g55) (st := [(.long q2), .null, (.ref b50), (.ref b50)]) rfl 1 rfl (by decide) (pc := 154) (Ls := (lc21 a1 q2 (-1) 0)) hml rfl (lenOf pd_5 rfl) d5_154 hby
  obtain ⟨rfl, N54q, K54, f56, f57, f58⟩ := hQ54
  have N59 := Fr.app N44 N54q
  have ne61 : a1 ≠ b50 := Nat.ne_of_lt (Nat.lt_of_lt_of_le (Nat.lt_of_lt_of_le (Nat.lt_of_lt_of_le (F5.lt) K32.1) K44.1) (Nat.le_of_eq g50.symm))
  have f62 : Fld Z T54.heap a1 zs2 "levels" zs3 (.ref a22) := ((Fld.ext E50 ((F23.keep K32 (ninS ne38 nin0)).keep K44 (ninS ne60 nin0))).keep K54 (ninS ne61 nin0))
  obtain ⟨T63, X63, e63, st63⟩ := getF X54 hx hZ hown (host := "") (Or.inl (ww hw 20 rfl)) Via.refl rfl f62 (g := (mkF m 160 (lc23 a1 q2 (-1) 0 b50) [(.ref a1)])) rfl rfl (hb hby d5_160)
  have ne64 : a22 ≠ b50 := Nat.ne_of_lt (Nat.lt_of_lt_of_le (Nat.lt_of_lt_of_le (f37.lt) K44.1) (Nat.le_of_eq g50.symm))
  have f65 : Arv Z T54.heap a22 kc26 (.object zs1) (16 : Int32) [(.ref a25), (.ref a25)] .null := (((f37.keep K44 (ninS (Ne.symm ne45) nin0)).ext E50).keep K54 (ninS ne64 nin0))
  have f66 : Exa Z T54.heap b50 zs1 := (A50.keep K54)
  obtain ⟨cl67, Ar67, q67, S67, N67, H67, G67⟩ := id f65
  have hin68 : ¬ ((0 : Int32) < 0 ∨ cl67.slots.size ≤ ((0 : Int32)).toNatClampNeg) := inb_of S67 ⟨by decide, by decide⟩
  obtain ⟨T68, h68, X68, e68, W68, st68⟩ := stR X63 hx hZ e63 Ar67 (j := (0 : Int32)) hin68 rfl (Sto.ofV Ar67 q67 O35 (Ins.self f66)) (g := (mkF m 167 (lc23 a1 q2 (-1) 0 b50) [(.ref b50), (.int 0), (.ref a22)])) rfl rfl (hb hby d5_167)
  have N69 := Fr.snoc X68 N59 g34
  have f70 : Arv Z h68 a22 kc26 (.object zs1) (16 : Int32) [(.ref b50), (.ref a25)] .null := Arv.set Ar67 q67 S67 N67 H67 G67 (by rfl) W68 0 rfl (Nat.le_of_ble_eq_true rfl)
  have f71 : Fld Z h68 a1 zs2 "ranks" "[J" (.ref a11) := (Fld.other W68 ((Fld.ext E50 (f39.keep K44 (ninS ne60 nin0))).keep K54 (ninS ne61 nin0)) (Or.inl ne38))
  obtain ⟨T72, X72, e72, st72⟩ := getF X68 hx hZ hown (host := "") (Or.inl (ww hw 23 rfl)) Via.refl e68 f71 (g := (mkF m 169 (lc23 a1 q2 (-1) 0 b50) [(.ref a1)])) rfl rfl (hb hby d5_169)
  have f74 : Fld Z h68 a1 zs2 "side" zs4 (.ref a4) := (Fld.other W68 ((Fld.ext E50 ((F5.keep K32 (ninS ne38 nin0)).keep K44 (ninS ne60 nin0))).keep K54 (ninS ne61 nin0)) (Or.inl ne38))
  have f75 : Sta Z h68 zs6 "BUY" zs4 (.ref a6) := (Sta.wr W68 (own_staK (Sta.ext E50 (own_staK (own_staK F7 K32 (allS (own_nsV f33) all0)) K44 (allS (own_nsV f47) all0))) K54 (allS (own_nsF f51) all0)))
  have Z_4 : n0 ≤ T54.heap.size := Nat.le_trans Z_3 K54.1
  have Z_5 : n0 ≤ h68.size := Nat.le_trans Z_4 (Keep.of_wr W68).1
  have f76 : Exa Z h68 a1 zs2 := (Exa.wr W68 ((Exa.ext E50 ((F9.keep K32).keep K44)).keep K54))
  obtain ⟨_, T73, L73, X73, hQ73, st73⟩ := ocallP X72 hx hZ zm3 hown (ww hw 43 rfl) (ww hw 44 rfl) (own_selP (mvT hZ (ww hw 10 rfl)) (mvP hZ (ww hw 45 rfl)) (mvT hZ (ww hw 44 rfl)) (by decide)) (ww hw 45 rfl) (by decide) (ww hw 46 rfl) (ww hw 11 rfl) e72 f76 (rm7_48 l Z a0 hw [] a1 q2 a4 a6 h68 n0 Z_5 f74 f75 ha8) (st := [(.long q2), (.ref a1), (.int 0), (.ref a11)]) rfl 2 rfl (by decide) (pc := 176) (Ls := (lc23 a1 q2 (-1) 0 b50)) hml rfl (lenOf pd_0 rfl) d5_176 hby
  obtain ⟨rfl, N73q, e73⟩ := hQ73
  have N77 := Fr.app N69 N73q
  have ne78 : a11 ≠ b50 := Nat.ne_of_lt (Nat.lt_of_lt_of_le (f49.lt) (Nat.le_of_eq g50.symm))
  have f79 : Arv Z h68 a11 kc14 .long (16 : Int32) [(.long q13), (.long q13)] (.long (0 : Int64)) := (((f49.ext E50).keep K54 (ninS ne78 nin0)).other W68 ne45)
  obtain ⟨cl80, Ar80, q80, S80, N80, H80, G80⟩ := id f79
  have hin81 : ¬ ((0 : Int32) < 0 ∨ cl80.slots.size ≤ ((0 : Int32)).toNatClampNeg) := inb_of S80 ⟨by decide, by decide⟩
  obtain ⟨T81, h81, X81, e81, W81, st81⟩ := stJ X73 hx hZ e73 Ar80 (j := (0 : Int32)) hin81 (g := (mkF m 179 (lc23 a1 q2 (-1) 0 b50) [(.long (q2 ^^^ (-1 : Int64))), (.int 0), (.ref a11)])) rfl rfl (hb hby d5_179)
  have N82 := Fr.snoc X81 N77 g48
  have f83 : Arv Z h81 a11 kc14 .long (16 : Int32) [(.long (q2 ^^^ (-1 : Int64))), (.long q13)] (.long (0 : Int64)) := Arv.set Ar80 q80 S80 N80 H80 G80 (by rfl) W81 0 rfl (Nat.le_of_ble_eq_true rfl)
  have f84 : Fld Z h81 a1 zs2 "count" "I" (.int 1) := (Fld.other W81 (Fld.other W68 ((Fld.ext E50 (f42.keep K44 (ninS ne60 nin0))).keep K54 (ninS ne61 nin0)) (Or.inl ne38)) (Or.inl ne60))
  obtain ⟨T85, X85, e85, st85⟩ := getF X81 hx hZ hown (host := "") (Or.inl (ww hw 32 rfl)) Via.refl e81 f84 (g := (mkF m 182 (lc23 a1 q2 (-1) 0 b50) [(.ref a1), (.ref a1)])) rfl rfl (hb hby d5_182)
  have f87 : Exa Z h81 a1 zs2 := (Exa.wr W81 f76)
  obtain ⟨T88, h88, X88, e88, W88, st88⟩ := putF X85 hx hZ hown (host := "") (Or.inl (ww hw 32 rfl)) Via.refl e85 f84 f87 (Or.inl (ww hw 33 rfl)) (ww hw 10 rfl) (ty := .int) (by decide) rfl rfl (g := (mkF m 187 (lc23 a1 q2 (-1) 0 b50) [(.int 2), (.ref a1)])) rfl rfl (hb hby d5_187)
  have N90 := Fr.snoc X88 N82 g89
  have f91 : Fld Z h88 a1 zs2 "count" "I" (.int 2) := Fld.same W88 f84
  refine own_go (U' := T88.setTop (mkF m 192 (lc23 a1 q2 (-1) 0 b50) [(.ref b50)])) (fun t k => oicY (pc := 60) X24 hx hby d5_60 100 (by decide) (by decide) (oaloadN X24 hx hby d5_100 rfl rfl (st29 _ (oiload X29 hx hby d5_104 rfl (oaloadN X29 hx hby d5_106 rfl rfl (st30 _ (oiload X30 hx hby d5_110 rfl (oiconst X30 hx hby d5_112 (oiadd X30 hx hby d5_113 (oaloadN X30 hx hby d5_114 rfl rfl (st31 _ (oiload X31 hx hby d5_118 rfl (oisub X31 hx hby d5_120 (st32 _ (oaloadN X32 hx hby d5_124 rfl rfl (st40 _ (oiload X40 hx hby d5_128 rfl (oaloadN X40 hx hby d5_130 rfl rfl (st41 _ (oiload X41 hx hby d5_134 rfl (oiconst X41 hx hby d5_136 (oiadd X41 hx hby d5_137 (oaloadN X41 hx hby d5_138 rfl rfl (st43 _ (oiload X43 hx hby d5_142 rfl (oisub X43 hx hby d5_144 (st44 _ (st50 _ (odup X50 hx hby d5_151 rfl (oaloadN X50 hx hby d5_152 rfl rfl (olloadN X50 hx hby d5_153 rfl (st54 _ (oastore X54 hx hby d5_157 (lc23 a1 q2 (-1) 0 b50) rfl rfl (oaloadN X54 hx hby d5_159 rfl rfl (st63 _ (oiload X63 hx hby d5_163 rfl (oaload X63 hx hby d5_165 rfl rfl (st68 _ (oaloadN X68 hx hby d5_168 rfl rfl (st72 _ (oiload X72 hx hby d5_172 rfl (oaloadN X72 hx hby d5_174 rfl rfl (olloadN X72 hx hby d5_175 rfl (st73 _ (st81 _ (oaloadN X81 hx hby d5_180 rfl rfl (odup X81 hx hby d5_181 rfl (st85 _ (oiconst X85 hx hby d5_185 (oiadd X85 hx hby d5_186 (st88 _ (oaload X88 hx hby d5_190 rfl rfl k)))))))))))))))))))))))))))))))))))))))))))))))))))) ?_
  have f92 : Arv Z h88 a22 kc26 (.object zs1) (16 : Int32) [(.ref b50), (.ref a25)] .null := ((f70.other W81 (Ne.symm ne45)).other W88 (Ne.symm ne38))
  have f93 : Arv Z h88 a11 kc14 .long (16 : Int32) [(.long (q2 ^^^ (-1 : Int64))), (.long q13)] (.long (0 : Int64)) := (f83.other W88 (Ne.symm ne60))
  have f94 : Fld Z h88 a1 zs2 "side" zs4 (.ref a4) := (Fld.other W88 (Fld.other W81 f74 (Or.inl ne60)) (Or.inr (slot_ne (Or.inr (ww hw 26 rfl)) (Or.inl (ww hw 33 rfl)) (by decide) (t := (.object zs6)) (t' := .int) (by decide) (by decide))))
  have f95 : Fld Z h88 a1 zs2 "ranks" "[J" (.ref a11) := (Fld.other W88 (Fld.other W81 f71 (Or.inl ne60)) (Or.inr (slot_ne (Or.inl (ww hw 24 rfl)) (Or.inl (ww hw 33 rfl)) (by decide) (t := (.array .long)) (t' := .int) (by decide) (by decide))))
  have f96 : Fld Z h88 a1 zs2 "levels" zs3 (.ref a22) := (Fld.other W88 (Fld.other W81 (Fld.other W68 f62 (Or.inl ne38)) (Or.inl ne60)) (Or.inr (slot_ne (Or.inl (ww hw 21 rfl)) (Or.inl (ww hw 33 rfl)) (by decide) (t := (.array (.object zs1))) (t' := .int) (by decide) (by decide))))
  have f97 : Fld Z h88 a1 zs2 "emptyLevels" "I" (.int (-1)) := (Fld.other W88 (Fld.other W81 (Fld.other W68 ((Fld.ext E50 ((F86.keep K32 (ninS ne38 nin0)).keep K44 (ninS ne60 nin0))).keep K54 (ninS ne61 nin0)) (Or.inl ne38)) (Or.inl ne60)) (Or.inr (slot_ne (Or.inl (ww hw 80 rfl)) (Or.inl (ww hw 33 rfl)) (by decide) (t := .int) (t' := .int) (by decide) (by decide))))
  have f98 : Exa Z h88 b50 zs1 := (Exa.wr W88 (Exa.wr W81 (Exa.wr W68 f66)))
  have f99 : Fld Z h88 b50 zs1 "price" zs10 .null := (Fld.other W88 (Fld.other W81 (Fld.other W68 f56 (Or.inl (Ne.symm ne64))) (Or.inl (Ne.symm ne78))) (Or.inl (Ne.symm ne61)))
  have f100 : Fld Z h88 b50 zs1 "priceSteps" "J" (.long q2) := (Fld.other W88 (Fld.other W81 (Fld.other W68 f57 (Or.inl (Ne.symm ne64))) (Or.inl (Ne.symm ne78))) (Or.inl (Ne.symm ne61)))
  have f101 : Fld Z h88 b50 zs1 "first" zs11 .null := (Fld.other W88 (Fld.other W81 (Fld.other W68 f58 (Or.inl (Ne.symm ne64))) (Or.inl (Ne.symm ne78))) (Or.inl (Ne.symm ne61)))
  obtain ⟨fs, hr, hrun, hended, hW, hsame⟩ := X88.leave (v := some (.ref b50)) (fun h => by rw [Bd.returns] at h; cases h)
  refine own_out ⟨_, _, ?_, hrun, hended, _, _, rfl, ?_, ⟨_, rfl⟩, hW, hsame.mono (by decide) (by decide)⟩
  · exact retOut X88 hx Bd.returns rfl (Or.inr (Or.inr (Or.inr (Or.inr ⟨rfl, rfl, rfl⟩)))) (hb hby d5_192) hr
  · show Q5_79 Z a1 q2 a4 a6 a11 q13 kc14 a22 a25 kc26 h0 n0 _ T88.heap _
    rw [e88]
    exact ⟨b50, rfl, N90, ((((Keep.trans ((Keep.trans (Keep.trans (Keep.refl h0 [a22, a11, a1]) K32 (allS (Or.inl (List.mem_of_getElem? (i := 0) rfl)) all0)) K44 (allS (Or.inl (List.mem_of_getElem? (i := 1) rfl)) all0)).ext E50) K54 (allS (Or.inr (Nat.le_trans K32.1 (Nat.le_trans K44.1 (Nat.le_of_eq g50.symm)))) all0)).wr W68 (Or.inl (List.mem_of_getElem? (i := 0) rfl))).wr W81 (Or.inl (List.mem_of_getElem? (i := 1) rfl))).wr W88 (Or.inl (List.mem_of_getElem? (i := 2) rfl))), (Nat.le_trans K32.1 (Nat.le_trans K44.1 (Nat.le_of_eq g50.symm))), f92, f93, f94, f91, f95, f96, f97, f98, f99, f100, f101⟩
def Q5_80 (Z : State) (a1 : Addr) (q2 : Int64) (a4 : Addr) (a6 : Addr) (a11 : Addr) (q13 : Int64) (kc14 : ClassId) (a22 : Addr) (a25 : Addr) (kc26 : ClassId) (h0 : Heap) (n0 : Nat) (v : Option Value) (h : Heap) (L : List Loc) : Prop := ∃ b50 : Addr, v = some (.ref b50) ∧ Fr n0 L ∧ Keep h0 h [a22, a11, a1] ∧ h0.size ≤ b50 ∧ Arv Z h a22 kc26 (.object zs1) (16 : Int32) [(.ref b50), (.ref a25)] .null ∧ Arv Z h a11 kc14 .long (16 : Int32) [(.long (q2 ^^^ (-1 : Int64))), (.long q13)] (.long (0 : Int64)) ∧ Fld Z h a1 zs2 "side" zs4 (.ref a4) ∧ Fld Z h a1 zs2 "count" "I" (.int 2) ∧ Fld Z h a1 zs2 "ranks" "[J" (.ref a11) ∧ Fld Z h a1 zs2 "levels" zs3 (.ref a22) ∧ Fld Z h a1 zs2 "emptyLevels" "I" (.int 0) ∧ Exa Z h b50 zs1 ∧ Fld Z h b50 zs1 "price" zs10 .null ∧ Fld Z h b50 zs1 "priceSteps" "J" (.long q2) ∧ Fld Z h b50 zs1 "first" zs11 .null
set_option maxRecDepth 65536 in
set_option maxHeartbeats 40000000 in
theorem rm5_80 (l : Launch) (Z : State) (a0 : Array Value) (hw : ∀ d ∈ tables_1, d.before a0 Z = true) (ws : List Jvm.Cond) (a1 : Addr) (q2 : Int64) (a4 : Addr) (a6 : Addr) (a11 : Addr) (q13 : Int64) (kc14 : ClassId) (a22 : Addr) (a25 : Addr) (kc26 : ClassId) (h0 : Heap) (n0 : Nat) (Z0 : n0 ≤ h0.size) (F5 : Fld Z h0 a1 zs2 "side" zs4 (.ref a4)) (F7 : Sta Z h0 zs6 "BUY" zs4 (.ref a6)) (ha8 : a4 ≠ a6) (F9 : Exa Z h0 a1 zs2) (F10 : Fld Z h0 a1 zs2 "count" "I" (.int 1)) (F12 : Fld Z h0 a1 zs2 "ranks" "[J" (.ref a11)) (F15 : Arv Z h0 a11 kc14 .long (16 : Int32) [(.long q13)] (.long (0 : Int64))) (hc16 : ¬ (q13 < (q2 ^^^ (-1 : Int64)))) (hc17 : ¬ ((q2 ^^^ (-1 : Int64)) = (-9223372036854775808 : Int64))) (hc18 : ¬ ((q2 ^^^ (-1 : Int64)) = (9223372036854775807 : Int64))) (hc19 : ¬ (q13 = (q2 ^^^ (-1 : Int64)))) (F23 : Fld Z h0 a1 zs2 "levels" zs3 (.ref a22)) (F27 : Arv Z h0 a22 kc26 (.object zs1) (16 : Int32) [(.ref a25)] .null) (g34 : n0 ≤ a22) (O35 : Ovr Z kc26 zs1) (F36 : Exa Z h0 a25 zs1) (ne38 : a1 ≠ a22) (ne45 : a11 ≠ a22) (g48 : n0 ≤ a11) (ne60 : a1 ≠ a11) (F86 : Fld Z h0 a1 zs2 "emptyLevels" "I" (.int 0)) (g89 : n0 ≤ a1) :
    MetFree l zm7 (head1 (Jvm.Cond.code zm7 prog_2_method_5_code 7 (some (.object zs1)) :: ws) ({ frames := 2, cells := 1, slots := 4, locals := 36 } : Room)) (fun a U => a = #[(.ref a1), (.long q2), .null] ∧ Z.Warmed39 U.vm ∧ U.heap = h0) (fun _ _ _ _ _ => True) (fun _ U o U' => ∃ v L, o = .returned v ∧ Q5_80 Z a1 q2 a4 a6 a11 q13 kc14 a22 a25 kc26 h0 n0 v U'.heap L ∧ FrameEnd U o U' L ({ frames := 2, cells := 1, slots := 4, locals := 36 } : Room).cells ({ frames := 2, cells := 1, slots := 4, locals := 36 } : Room).slots) := by
  refine MetFree.of_bodySF (plainFor_of_name pn_com_example_srok_srok_engine_BookSide) hisR ?_
  intro p e s m args below meth c s₁ Bd hml0 hP hK
  obtain ⟨rfl, hZ, hh⟩ := hP
  have hx := Bd.exec
  have hby := Bd.bytes
  have hml : c.maxLocals = 7 := hml0
  have hown : s.vm.findClass zs2 = some m.cls := findClass_of_methodNamed Bd.named
  have hnm := (name_of_methodNamed Bd.named Bd.method).1
  have X0 : Stand p l e ({ frames := 2, cells := 1, slots := 4, locals := 36 } : Room) s m #[(.ref a1), (.long q2), .null] below meth c s₁ [] 0 0 := Stand.of_body Bd
  have e0 : s₁.heap = h0 := by rw [← hh, Bd.state]; rfl
  have N0 := Fr.nil n0
  refine own_pre (g' := mkF m 0 (lc10 a1 q2) []) (ef_7 m a1 q2) ?_
  obtain ⟨_, T3, L3, X3, hQ3, st3⟩ := ocallP X0 hx hZ zm5 hown (ww hw 39 rfl) (ww hw 40 rfl) (own_selP (mvT hZ (ww hw 10 rfl)) (mvP hZ (ww hw 41 rfl)) (mvT hZ (ww hw 40 rfl)) (by decide)) (ww hw 41 rfl) (by decide) (ww hw 42 rfl) (ww hw 11 rfl) e0 F9 (mg6_78 l Z a0 hw [] a1 q2 a4 a6 a11 q13 kc14 h0 n0 Z0 F5 F7 ha8 F9 F10 F12 F15 hc16 hc17 hc18 hc19) (st := [.null, (.long q2), (.ref a1)]) rfl 0 rfl (by decide) (pc := 3) (Ls := (lc10 a1 q2)) hml rfl (lenOf pd_4 rfl) d5_3 hby
  obtain ⟨rfl, N3q, e3⟩ := hQ3
  have N20 := Fr.app N0 N3q
  refine own_go (U' := T3.setTop (mkF m 10 (lc20 a1 q2 (-1)) [(.int (-1))])) (fun t k => oaloadN X0 hx hby d5_0 rfl rfl (olloadN X0 hx hby d5_1 rfl (oaloadN X0 hx hby d5_2 rfl rfl (st3 _ (oistore X3 hx hby d5_6 (lc20 a1 q2 (-1)) rfl (oiload X3 hx hby d5_8 rfl k)))))) ?_
  refine own_go (U' := T3.setTop (mkF m 47 (lc20 a1 q2 (-1)) [(.int (-(-1 : Int32)))])) (fun t k => oifY (pc := 10) X3 hx hby d5_10 44 (by decide) (by decide) (oiload X3 hx hby d5_44 rfl (oineg X3 hx hby d5_46 k))) ?_
  rw [show (-(-1 : Int32)) = (1 : Int32) from by decide]
  obtain ⟨T21, X21, e21, st21⟩ := getF X3 hx hZ hown (host := "") (Or.inl (ww hw 32 rfl)) Via.refl e3 F10 (g := (mkF m 52 (lc21 a1 q2 (-1) 0) [(.ref a1)])) rfl rfl (hb hby d5_52)
  obtain ⟨T24, X24, e24, st24⟩ := getF X21 hx hZ hown (host := "") (Or.inl (ww hw 20 rfl)) Via.refl e21 F23 (g := (mkF m 56 (lc21 a1 q2 (-1) 0) [(.ref a1), (.int 1)])) rfl rfl (hb hby d5_56)
  refine own_go (U' := T24.setTop (mkF m 59 (lc21 a1 q2 (-1) 0) [(.ref a22), (.int 1)])) (fun t k => oiconst X3 hx hby d5_47 (oisub X3 hx hby d5_48 (oistore X3 hx hby d5_49 (lc21 a1 q2 (-1) 0) rfl (oaloadN X3 hx hby d5_51 rfl rfl (st21 _ (oaloadN X21 hx hby d5_55 rfl rfl (st24 _ k))))))) ?_
  obtain ⟨cl28, Ar28, q28, S28, N28, H28, G28⟩ := id F27
  refine own_go (fun t k => X24.arraylength hx (by rw [e24]; exact Ar28.1) (State.isArrayOf_alike hZ.alike Ar28.2.1) (g := (mkF m 59 (lc21 a1 q2 (-1) 0) [(.ref a22), (.int 1)])) rfl rfl (hb hby d5_59) _ k) ?_
  rw [len_of S28 N28]
  obtain ⟨T29, X29, e29, st29⟩ := getF X24 hx hZ hown (host := "") (Or.inl (ww hw 20 rfl)) Via.refl e24 F23 (g := (mkF m 101 (lc21 a1 q2 (-1) 0) [(.ref a1)])) rfl rfl (hb hby d5_101)
  obtain ⟨T30, X30, e30, st30⟩ := getF X29 hx hZ hown (host := "") (Or.inl (ww hw 20 rfl)) Via.refl e29 F23 (g := (mkF m 107 (lc21 a1 q2 (-1) 0) [(.ref a1), (.int 0), (.ref a22)])) rfl rfl (hb hby d5_107)
  obtain ⟨T31, X31, e31, st31⟩ := getF X30 hx hZ hown (host := "") (Or.inl (ww hw 32 rfl)) Via.refl e30 F10 (g := (mkF m 115 (lc21 a1 q2 (-1) 0) [(.ref a1), (.int 1), (.ref a22), (.int 0), (.ref a22)])) rfl rfl (hb hby d5_115)
  have f33 : Arv Z h0 a22 kc26 (.object zs1) (16 : Int32) [(.ref a25), .null] .null := F27.pad (pad_rep [(.ref a25)] .null 1)
  obtain ⟨cl32, Ar32, q32, -⟩ := id f33
  obtain ⟨T32, h32, L32, X32, e32, N32, K32, V32, st32⟩ := cpA X31 hx hZ hown (ww hw 54 rfl) (ww hw 57 rfl) (ww hw 55 rfl) (ww hw 56 rfl) e31 (us := [(.ref a25)]) f33 f33 (Or.inr ⟨rfl, rfl, ⟨(Sto.ofV Ar32 q32 O35 (Ins.self F36)), trivial⟩⟩) (by decide) (by decide) (by decide) (by decide) (by decide) rfl (Nat.le_of_ble_eq_true rfl) N20 g34 (g := (mkF m 121 (lc21 a1 q2 (-1) 0) [(.int 1), (.int 1), (.ref a22), (.int 0), (.ref a22)])) rfl (by rw [hml]; rfl) rfl (hb hby d5_121) (by decide) (W := 0) (by show 2 * 0 + _ ≤ _; exact Nat.le_of_eq rfl) (by decide)
  have f37 : Arv Z h32 a22 kc26 (.object zs1) (16 : Int32) [(.ref a25), (.ref a25)] .null := V32
  have f39 : Fld Z h32 a1 zs2 "ranks" "[J" (.ref a11) := (F12.keep K32 (ninS ne38 nin0))
  obtain ⟨T40, X40, e40, st40⟩ := getF X32 hx hZ hown (host := "") (Or.inl (ww hw 23 rfl)) Via.refl e32 f39 (g := (mkF m 125 (lc21 a1 q2 (-1) 0) [(.ref a1)])) rfl rfl (hb hby d5_125)
  obtain ⟨T41, X41, e41, st41⟩ := getF X40 hx hZ hown (host := "") (Or.inl (ww hw 23 rfl)) Via.refl e40 f39 (g := (mkF m 131 (lc21 a1 q2 (-1) 0) [(.ref a1), (.int 0), (.ref a11)])) rfl rfl (hb hby d5_131)
  have f42 : Fld Z h32 a1 zs2 "count" "I" (.int 1) := (F10.keep K32 (ninS ne38 nin0))
  obtain ⟨T43, X43, e43, st43⟩ := getF X41 hx hZ hown (host := "") (Or.inl (ww hw 32 rfl)) Via.refl e41 f42 (g := (mkF m 139 (lc21 a1 q2 (-1) 0) [(.ref a1), (.int 1), (.ref a11), (.int 0), (.ref a11)])) rfl rfl (hb hby d5_139)
  have f46 : Arv Z h32 a11 kc14 .long (16 : Int32) [(.long q13)] (.long (0 : Int64)) := (F15.keep K32 (ninS ne45 nin0))
  have f47 : Arv Z h32 a11 kc14 .long (16 : Int32) [(.long q13), (.long 0)] (.long (0 : Int64)) := f46.pad (pad_rep [(.long q13)] (.long (0 : Int64)) 1)
  obtain ⟨T44, h44, L44, X44, e44, N44, K44, V44, st44⟩ := cpA X43 hx hZ hown (ww hw 54 rfl) (ww hw 57 rfl) (ww hw 55 rfl) (ww hw 56 rfl) e43 (us := [(.long q13)]) f47 f47 (Or.inl ⟨rfl, rfl⟩) (by decide) (by decide) (by decide) (by decide) (by decide) rfl (Nat.le_of_ble_eq_true rfl) N32 g48 (g := (mkF m 145 (lc21 a1 q2 (-1) 0) [(.int 1), (.int 1), (.ref a11), (.int 0), (.ref a11)])) rfl (by rw [hml]; rfl) rfl (hb hby d5_145) (by decide) (W := 0) (by show 2 * 0 + _ ≤ _; exact Nat.le_of_eq rfl) (by decide)
  have f49 : Arv Z h44 a11 kc14 .long (16 : Int32) [(.long q13), (.long q13)] (.long (0 : Int64)) := V44
  obtain ⟨T50, h50, X50, e50, E50, A50, D50, -, st50⟩ := newO X44 hx hZ hown (ww hw 18 rfl) (ww hw 58 rfl) (ww hw 59 rfl) e44 (g := (mkF m 148 (lc21 a1 q2 (-1) 0) [])) rfl (hb hby d5_148) (by decide) (by decide)
  obtain ⟨b50, g50⟩ : ∃ z, z = h44.size := ⟨_, rfl⟩
  rw [← g50] at A50 D50 st50
  have f51 : Fld Z h50 b50 zs1 "price" zs10 .null := D50 (Or.inr (ww hw 65 rfl)) (ty := (.object zs13)) (by decide)
  have f52 : Fld Z h50 b50 zs1 "priceSteps" "J" (.long 0) := D50 (Or.inr (ww hw 67 rfl)) (ty := .long) (by decide)
  have f53 : Fld Z h50 b50 zs1 "first" zs11 .null := D50 (Or.inl (ww hw 78 rfl)) (ty := (.object zs14)) (by decide)
  have Z_1 : n0 ≤ h32.size := Nat.le_trans Z0 K32.1
  have Z_2 : n0 ≤ h44.size := Nat.le_trans Z_1 K44.1
  have g55 : n0 ≤ b50 := Nat.le_trans Z_2 (Nat.le_of_eq g50.symm)
  have Z_3 : n0 ≤ h50.size := Nat.le_trans Z_2 E50.1
  obtain ⟨_, T54, L54, X54, hQ54, st54⟩ := ocallI X50 hx hZ zm6 rfl hown (ww hw 60 rfl) (ww hw 61 rfl) (by decide) (ww hw 62 rfl) (ww hw 59 rfl) e50 (rm9_10 l Z a0 hw [] b50 q2 h50 n0 Z_3 f51 f52 f53 A50 g55) (st := [(.long q2), .null, (.ref b50), (.ref b50)]) rfl 1 rfl (by decide) (pc := 154) (Ls := (lc21 a1 q2 (-1) 0)) hml rfl (lenOf pd_5 rfl) d5_154 hby
  obtain ⟨rfl, N54q, K54, f56, f57, f58⟩ := hQ54
  have N59 := Fr.app N44 N54q
  have ne61 : a1 ≠ b50 := Nat.ne_of_lt (Nat.lt_of_lt_of_le (Nat.lt_of_lt_of_le (Nat.lt_of_lt_of_le (F5.lt) K32.1) K44.1) (Nat.le_of_eq g50.symm))
  have f62 : Fld Z T54.heap a1 zs2 "levels" zs3 (.ref a22) := ((Fld.ext E50 ((F23.keep K32 (ninS ne38 nin0)).keep K44 (ninS ne60 nin0))).keep K54 (ninS ne61 nin0))
  obtain ⟨T63, X63, e63, st63⟩ := getF X54 hx hZ hown (host := "") (Or.inl (ww hw 20 rfl)) Via.refl rfl f62 (g := (mkF m 160 (lc23 a1 q2 (-1) 0 b50) [(.ref a1)])) rfl rfl (hb hby d5_160)
  have ne64 : a22 ≠ b50 := Nat.ne_of_lt (Nat.lt_of_lt_of_le (Nat.lt_of_lt_of_le (f37.lt) K44.1) (Nat.le_of_eq g50.symm))
  have f65 : Arv Z T54.heap a22 kc26 (.object zs1) (16 : Int32) [(.ref a25), (.ref a25)] .null := (((f37.keep K44 (ninS (Ne.symm ne45) nin0)).ext E50).keep K54 (ninS ne64 nin0))
  have f66 : Exa Z T54.heap b50 zs1 := (A50.keep K54)
  obtain ⟨cl67, Ar67, q67, S67, N67, H67, G67⟩ := id f65
  have hin68 : ¬ ((0 : Int32) < 0 ∨ cl67.slots.size ≤ ((0 : Int32)).toNatClampNeg) := inb_of S67 ⟨by decide, by decide⟩
  obtain ⟨T68, h68, X68, e68, W68, st68⟩ := stR X63 hx hZ e63 Ar67 (j := (0 : Int32)) hin68 rfl (Sto.ofV Ar67 q67 O35 (Ins.self f66)) (g := (mkF m 167 (lc23 a1 q2 (-1) 0 b50) [(.ref b50), (.int 0), (.ref a22)])) rfl rfl (hb hby d5_167)
  have N69 := Fr.snoc X68 N59 g34
  have f70 : Arv Z h68 a22 kc26 (.object zs1) (16 : Int32) [(.ref b50), (.ref a25)] .null := Arv.set Ar67 q67 S67 N67 H67 G67 (by rfl) W68 0 rfl (Nat.le_of_ble_eq_true rfl)
  have f71 : Fld Z h68 a1 zs2 "ranks" "[J" (.ref a11) := (Fld.other W68 ((Fld.ext E50 (f39.keep K44 (ninS ne60 nin0))).keep K54 (ninS ne61 nin0)) (Or.inl ne38))
  obtain ⟨T72, X72, e72, st72⟩ := getF X68 hx hZ hown (host := "") (Or.inl (ww hw 23 rfl)) Via.refl e68 f71 (g := (mkF m 169 (lc23 a1 q2 (-1) 0 b50) [(.ref a1)])) rfl rfl (hb hby d5_169)
  have f74 : Fld Z h68 a1 zs2 "side" zs4 (.ref a4) := (Fld.other W68 ((Fld.ext E50 ((F5.keep K32 (ninS ne38 nin0)).keep K44 (ninS ne60 nin0))).keep K54 (ninS ne61 nin0)) (Or.inl ne38))
  have f75 : Sta Z h68 zs6 "BUY" zs4 (.ref a6) := (Sta.wr W68 (own_staK (Sta.ext E50 (own_staK (own_staK F7 K32 (allS (own_nsV f33) all0)) K44 (allS (own_nsV f47) all0))) K54 (allS (own_nsF f51) all0)))
  have Z_4 : n0 ≤ T54.heap.size := Nat.le_trans Z_3 K54.1
  have Z_5 : n0 ≤ h68.size := Nat.le_trans Z_4 (Keep.of_wr W68).1
  have f76 : Exa Z h68 a1 zs2 := (Exa.wr W68 ((Exa.ext E50 ((F9.keep K32).keep K44)).keep K54))
  obtain ⟨_, T73, L73, X73, hQ73, st73⟩ := ocallP X72 hx hZ zm3 hown (ww hw 43 rfl) (ww hw 44 rfl) (own_selP (mvT hZ (ww hw 10 rfl)) (mvP hZ (ww hw 45 rfl)) (mvT hZ (ww hw 44 rfl)) (by decide)) (ww hw 45 rfl) (by decide) (ww hw 46 rfl) (ww hw 11 rfl) e72 f76 (rm7_48 l Z a0 hw [] a1 q2 a4 a6 h68 n0 Z_5 f74 f75 ha8) (st := [(.long q2), (.ref a1), (.int 0), (.ref a11)]) rfl 2 rfl (by decide) (pc := 176) (Ls := (lc23 a1 q2 (-1) 0 b50)) hml rfl (lenOf pd_0 rfl) d5_176 hby
  obtain ⟨rfl, N73q, e73⟩ := hQ73
  have N77 := Fr.app N69 N73q
  have ne78 : a11 ≠ b50 := Nat.ne_of_lt (Nat.lt_of_lt_of_le (f49.lt) (Nat.le_of_eq g50.symm))
  have f79 : Arv Z h68 a11 kc14 .long (16 : Int32) [(.long q13), (.long q13)] (.long (0 : Int64)) := (((f49.ext E50).keep K54 (ninS ne78 nin0)).other W68 ne45)
  obtain ⟨cl80, Ar80, q80, S80, N80, H80, G80⟩ := id f79
  have hin81 : ¬ ((0 : Int32) < 0 ∨ cl80.slots.size ≤ ((0 : Int32)).toNatClampNeg) := inb_of S80 ⟨by decide, by decide⟩
  obtain ⟨T81, h81, X81, e81, W81, st81⟩ := stJ X73 hx hZ e73 Ar80 (j := (0 : Int32)) hin81 (g := (mkF m 179 (lc23 a1 q2 (-1) 0 b50) [(.long (q2 ^^^ (-1 : Int64))), (.int 0), (.ref a11)])) rfl rfl (hb hby d5_179)
  have N82 := Fr.snoc X81 N77 g48
  have f83 : Arv Z h81 a11 kc14 .long (16 : Int32) [(.long (q2 ^^^ (-1 : Int64))), (.long q13)] (.long (0 : Int64)) := Arv.set Ar80 q80 S80 N80 H80 G80 (by rfl) W81 0 rfl (Nat.le_of_ble_eq_true rfl)
  have f84 : Fld Z h81 a1 zs2 "count" "I" (.int 1) := (Fld.other W81 (Fld.other W68 ((Fld.ext E50 (f42.keep K44 (ninS ne60 nin0))).keep K54 (ninS ne61 nin0)) (Or.inl ne38)) (Or.inl ne60))
  obtain ⟨T85, X85, e85, st85⟩ := getF X81 hx hZ hown (host := "") (Or.inl (ww hw 32 rfl)) Via.refl e81 f84 (g := (mkF m 182 (lc23 a1 q2 (-1) 0 b50) [(.ref a1), (.ref a1)])) rfl rfl (hb hby d5_182)
  have f87 : Exa Z h81 a1 zs2 := (Exa.wr W81 f76)
  obtain ⟨T88, h88, X88, e88, W88, st88⟩ := putF X85 hx hZ hown (host := "") (Or.inl (ww hw 32 rfl)) Via.refl e85 f84 f87 (Or.inl (ww hw 33 rfl)) (ww hw 10 rfl) (ty := .int) (by decide) rfl rfl (g := (mkF m 187 (lc23 a1 q2 (-1) 0 b50) [(.int 2), (.ref a1)])) rfl rfl (hb hby d5_187)
  have N90 := Fr.snoc X88 N82 g89
  have f91 : Fld Z h88 a1 zs2 "count" "I" (.int 2) := Fld.same W88 f84
  refine own_go (U' := T88.setTop (mkF m 192 (lc23 a1 q2 (-1) 0 b50) [(.ref b50)])) (fun t k => oicY (pc := 60) X24 hx hby d5_60 100 (by decide) (by decide) (oaloadN X24 hx hby d5_100 rfl rfl (st29 _ (oiload X29 hx hby d5_104 rfl (oaloadN X29 hx hby d5_106 rfl rfl (st30 _ (oiload X30 hx hby d5_110 rfl (oiconst X30 hx hby d5_112 (oiadd X30 hx hby d5_113 (oaloadN X30 hx hby d5_114 rfl rfl (st31 _ (oiload X31 hx hby d5_118 rfl (oisub X31 hx hby d5_120 (st32 _ (oaloadN X32 hx hby d5_124 rfl rfl (st40 _ (oiload X40 hx hby d5_128 rfl (oaloadN X40 hx hby d5_130 rfl rfl (st41 _ (oiload X41 hx hby d5_134 rfl (oiconst X41 hx hby d5_136 (oiadd X41 hx hby d5_137 (oaloadN X41 hx hby d5_138 rfl rfl (st43 _ (oiload X43 hx hby d5_142 rfl (oisub X43 hx hby d5_144 (st44 _ (st50 _ (odup X50 hx hby d5_151 rfl (oaloadN X50 hx hby d5_152 rfl rfl (olloadN X50 hx hby d5_153 rfl (st54 _ (oastore X54 hx hby d5_157 (lc23 a1 q2 (-1) 0 b50) rfl rfl (oaloadN X54 hx hby d5_159 rfl rfl (st63 _ (oiload X63 hx hby d5_163 rfl (oaload X63 hx hby d5_165 rfl rfl (st68 _ (oaloadN X68 hx hby d5_168 rfl rfl (st72 _ (oiload X72 hx hby d5_172 rfl (oaloadN X72 hx hby d5_174 rfl rfl (olloadN X72 hx hby d5_175 rfl (st73 _ (st81 _ (oaloadN X81 hx hby d5_180 rfl rfl (odup X81 hx hby d5_181 rfl (st85 _ (oiconst X85 hx hby d5_185 (oiadd X85 hx hby d5_186 (st88 _ (oaload X88 hx hby d5_190 rfl rfl k)))))))))))))))))))))))))))))))))))))))))))))))))))) ?_
  have f92 : Arv Z h88 a22 kc26 (.object zs1) (16 : Int32) [(.ref b50), (.ref a25)] .null := ((f70.other W81 (Ne.symm ne45)).other W88 (Ne.symm ne38))
  have f93 : Arv Z h88 a11 kc14 .long (16 : Int32) [(.long (q2 ^^^ (-1 : Int64))), (.long q13)] (.long (0 : Int64)) := (f83.other W88 (Ne.symm ne60))
  have f94 : Fld Z h88 a1 zs2 "side" zs4 (.ref a4) := (Fld.other W88 (Fld.other W81 f74 (Or.inl ne60)) (Or.inr (slot_ne (Or.inr (ww hw 26 rfl)) (Or.inl (ww hw 33 rfl)) (by decide) (t := (.object zs6)) (t' := .int) (by decide) (by decide))))
  have f95 : Fld Z h88 a1 zs2 "ranks" "[J" (.ref a11) := (Fld.other W88 (Fld.other W81 f71 (Or.inl ne60)) (Or.inr (slot_ne (Or.inl (ww hw 24 rfl)) (Or.inl (ww hw 33 rfl)) (by decide) (t := (.array .long)) (t' := .int) (by decide) (by decide))))
  have f96 : Fld Z h88 a1 zs2 "levels" zs3 (.ref a22) := (Fld.other W88 (Fld.other W81 (Fld.other W68 f62 (Or.inl ne38)) (Or.inl ne60)) (Or.inr (slot_ne (Or.inl (ww hw 21 rfl)) (Or.inl (ww hw 33 rfl)) (by decide) (t := (.array (.object zs1))) (t' := .int) (by decide) (by decide))))
  have f97 : Fld Z h88 a1 zs2 "emptyLevels" "I" (.int 0) := (Fld.other W88 (Fld.other W81 (Fld.other W68 ((Fld.ext E50 ((F86.keep K32 (ninS ne38 nin0)).keep K44 (ninS ne60 nin0))).keep K54 (ninS ne61 nin0)) (Or.inl ne38)) (Or.inl ne60)) (Or.inr (slot_ne (Or.inl (ww hw 80 rfl)) (Or.inl (ww hw 33 rfl)) (by decide) (t := .int) (t' := .int) (by decide) (by decide))))
  have f98 : Exa Z h88 b50 zs1 := (Exa.wr W88 (Exa.wr W81 (Exa.wr W68 f66)))
  have f99 : Fld Z h88 b50 zs1 "price" zs10 .null := (Fld.other W88 (Fld.other W81 (Fld.other W68 f56 (Or.inl (Ne.symm ne64))) (Or.inl (Ne.symm ne78))) (Or.inl (Ne.symm ne61)))
  have f100 : Fld Z h88 b50 zs1 "priceSteps" "J" (.long q2) := (Fld.other W88 (Fld.other W81 (Fld.other W68 f57 (Or.inl (Ne.symm ne64))) (Or.inl (Ne.symm ne78))) (Or.inl (Ne.symm ne61)))
  have f101 : Fld Z h88 b50 zs1 "first" zs11 .null := (Fld.other W88 (Fld.other W81 (Fld.other W68 f58 (Or.inl (Ne.symm ne64))) (Or.inl (Ne.symm ne78))) (Or.inl (Ne.symm ne61)))
  obtain ⟨fs, hr, hrun, hended, hW, hsame⟩ := X88.leave (v := some (.ref b50)) (fun h => by rw [Bd.returns] at h; cases h)
  refine own_out ⟨_, _, ?_, hrun, hended, _, _, rfl, ?_, ⟨_, rfl⟩, hW, hsame.mono (by decide) (by decide)⟩
  · exact retOut X88 hx Bd.returns rfl (Or.inr (Or.inr (Or.inr (Or.inr ⟨rfl, rfl, rfl⟩)))) (hb hby d5_192) hr
  · show Q5_80 Z a1 q2 a4 a6 a11 q13 kc14 a22 a25 kc26 h0 n0 _ T88.heap _
    rw [e88]
    exact ⟨b50, rfl, N90, ((((Keep.trans ((Keep.trans (Keep.trans (Keep.refl h0 [a22, a11, a1]) K32 (allS (Or.inl (List.mem_of_getElem? (i := 0) rfl)) all0)) K44 (allS (Or.inl (List.mem_of_getElem? (i := 1) rfl)) all0)).ext E50) K54 (allS (Or.inr (Nat.le_trans K32.1 (Nat.le_trans K44.1 (Nat.le_of_eq g50.symm)))) all0)).wr W68 (Or.inl (List.mem_of_getElem? (i := 0) rfl))).wr W81 (Or.inl (List.mem_of_getElem? (i := 1) rfl))).wr W88 (Or.inl (List.mem_of_getElem? (i := 2) rfl))), (Nat.le_trans K32.1 (Nat.le_trans K44.1 (Nat.le_of_eq g50.symm))), f92, f93, f94, f91, f95, f96, f97, f98, f99, f100, f101⟩
set_option maxRecDepth 65536 in
set_option maxHeartbeats 40000000 in
theorem law_all (l : Launch) (Z : State) (a0 : Array Value) (hw : ∀ d ∈ tables_1, d.before a0 Z = true) (ws : List Jvm.Cond) (i0 : Int32) (i1 : Int64) (i2 : Int64) (i3 : Int64) (w0 : Addr) (w1 : Addr) (h0 : Heap) (n0 : Nat) (Z0 : n0 ≤ h0.size) (S0 : Sta Z h0 "com/example/srok/srok/engine/Side" "BUY" "Lcom/example/srok/srok/engine/Side;" (.ref w0)) (S1 : Exa Z h0 w0 "com/example/srok/srok/engine/Side") (S2 : Sta Z h0 "com/example/srok/srok/engine/Side" "SELL" "Lcom/example/srok/srok/engine/Side;" (.ref w1)) (S3 : Exa Z h0 w1 "com/example/srok/srok/engine/Side") (S4 : Fld Z h0 w1 "java/lang/Enum" "ordinal" "I" (.int 1)) (S5 : Fld Z h0 w0 "java/lang/Enum" "ordinal" "I" (.int 0)) :
    MetFree l x (head1 (Jvm.Cond.code x code maxLocals ret :: ws) room_1) (fun a U => a = #[(.int i0), (.long i1), (.long i2), (.long i3)] ∧ Z.Warmed39 U.vm ∧ U.heap = h0) (fun _ _ _ _ _ => True) (fun _ U o U' => ∃ v L, o = .returned v ∧ QLaw n0 v U'.heap L ∧ FrameEnd U o U' L room_1.cells room_1.slots) := by
  refine MetFree.of_bodySF (plainFor_of_name pn_com_example_srok_srok_engine_BookSideBestPinLaw) hisR ?_
  intro p e s m args below meth c s₁ Bd hml0 hP hK
  obtain ⟨rfl, hZ, hh⟩ := hP
  have hx := Bd.exec
  have hby := Bd.bytes
  have hml : c.maxLocals = 24 := hml0
  have hown : s.vm.findClass zs0 = some m.cls := findClass_of_methodNamed Bd.named
  have hnm := (name_of_methodNamed Bd.named Bd.method).1
  have X0 : Stand p l e room_1 s m #[(.int i0), (.long i1), (.long i2), (.long i3)] below meth c s₁ [] 0 0 := Stand.of_body Bd
  have e0 : s₁.heap = h0 := by rw [← hh, Bd.state]; rfl
  have N0 := Fr.nil n0
  refine own_pre (g' := mkF m 0 (lc0 i0 i1 i2 i3) []) (ef_9 m i0 i1 i2 i3) ?_
  refine own_go (U' := s₁.setTop (mkF m 3 (lc0 i0 i1 i2 i3) [(.int (i0 &&& (1 : Int32)))])) (fun t k => oiloadN X0 hx hby at_0 rfl (oiconst X0 hx hby at_1 (oiand X0 hx hby at_2 k))) ?_
  rcases own_s2 i0 with hk1 | hk1
  · have hv0 : (i0 &&& (1 : Int32)) = (0 : Int32) := hk1
    rw [hv0]
    refine own_go (U' := s₁.setTop (mkF m 15 (lc1 i0 i1 i2 i3 1) [(.int 1)])) (fun t k => oifN X0 hx hby at_3 (by decide) (oiconst X0 hx hby at_6 (ogoto (pc := 7) X0 hx hby at_7 11 (by decide) (oistore X0 hx hby at_11 (lc1 i0 i1 i2 i3 1) rfl (oiload X0 hx hby at_13 rfl k))))) ?_
    obtain ⟨Tr1, Xr1, er1, str1⟩ := getS2 X0 hx hZ hown (host := "") (Or.inl (ww hw 0 rfl)) Via.refl e0 S0 (g := (mkF m 18 (lc1 i0 i1 i2 i3 1) [])) rfl (hb hby at_18)
    obtain ⟨_, Tr2, Lr2, Xr2, hQr2, str2⟩ := ocallS Xr1 hx hZ zm0 hown (ww hw 3 rfl) (ww hw 4 rfl) (by decide) (ww hw 6 rfl) (ww hw 5 rfl) er1 (mg1_3 l Z a0 hw [] i1 h0 n0 Z0 ) (st := [(.long i1)]) rfl 0 rfl (by decide) (pc := 30) (Ls := (lc2 i0 i1 i2 i3 1 w0)) hml rfl (lenOf pd_0 rfl) at_30 hby
    obtain ⟨rfl, Nr2q, er2⟩ := hQr2
    have N1 := Fr.app N0 Nr2q
    obtain ⟨_, Tr3, Lr3, Xr3, hQr3, str3⟩ := ocallS Xr2 hx hZ zm0 hown (ww hw 3 rfl) (ww hw 4 rfl) (by decide) (ww hw 6 rfl) (ww hw 5 rfl) er2 (mg1_3 l Z a0 hw [] i2 h0 n0 Z0 ) (st := [(.long i2)]) rfl 0 rfl (by decide) (pc := 36) (Ls := (lc4 i0 i1 i2 i3 1 w0 (own_inward i1))) hml rfl (lenOf pd_0 rfl) at_36 hby
    obtain ⟨rfl, Nr3q, er3⟩ := hQr3
    have N2 := Fr.app N1 Nr3q
    obtain ⟨_, Tr4, Lr4, Xr4, hQr4, str4⟩ := ocallS Xr3 hx hZ zm0 hown (ww hw 3 rfl) (ww hw 4 rfl) (by decide) (ww hw 6 rfl) (ww hw 5 rfl) er3 (mg1_3 l Z a0 hw [] i3 h0 n0 Z0 ) (st := [(.long i3)]) rfl 0 rfl (by decide) (pc := 43) (Ls := (lc5 i0 i1 i2 i3 1 w0 (own_inward i1) (own_inward i2))) hml rfl (lenOf pd_0 rfl) at_43 hby
    obtain ⟨rfl, Nr4q, er4⟩ := hQr4
    have N3 := Fr.app N2 Nr4q
    obtain ⟨Tr5, hr5, Xr5, er5, Er5, Ar5, Dr5, -, str5⟩ := newO Xr4 hx hZ hown (ww hw 9 rfl) (ww hw 10 rfl) (ww hw 11 rfl) er4 (g := (mkF m 48 (lc6 i0 i1 i2 i3 1 w0 (own_inward i1) (own_inward i2) (own_inward i3)) [])) rfl (hb hby at_48) (by decide) (by decide)
    obtain ⟨br5, gr5⟩ : ∃ z, z = h0.size := ⟨_, rfl⟩
    rw [← gr5] at Ar5 Dr5 str5
    have f1 : Fld Z hr5 br5 zs2 "levels" zs3 .null := Dr5 (Or.inl (ww hw 21 rfl)) (ty := (.array (.object zs1))) (by decide)
    have f2 : Fld Z hr5 br5 zs2 "ranks" "[J" .null := Dr5 (Or.inl (ww hw 24 rfl)) (ty := (.array .long)) (by decide)
    have f3 : Fld Z hr5 br5 zs2 "side" zs4 .null := Dr5 (Or.inr (ww hw 26 rfl)) (ty := (.object zs6)) (by decide)
    have f4 : Fld Z hr5 br5 zs2 "count" "I" (.int 0) := Dr5 (Or.inl (ww hw 33 rfl)) (ty := .int) (by decide)
    have f5 : Fld Z hr5 br5 zs2 "emptyLevels" "I" (.int 0) := Dr5 (Or.inl (ww hw 80 rfl)) (ty := .int) (by decide)
    have g1 : n0 ≤ br5 := Nat.le_trans Z0 (Nat.le_of_eq gr5.symm)
    have Z_1 : n0 ≤ hr5.size := Nat.le_trans Z0 Er5.1
    obtain ⟨_, Tr6, Lr6, Xr6, hQr6, str6⟩ := ocallI Xr5 hx hZ zm1 rfl hown (ww hw 12 rfl) (ww hw 13 rfl) (by decide) (ww hw 14 rfl) (ww hw 11 rfl) er5 (rm2_4 l Z a0 hw [] br5 w0 hr5 n0 Z_1 f1 f2 f3 f4 f5 Ar5 g1) (st := [(.ref w0), (.ref br5), (.ref br5)]) rfl 1 rfl (by decide) (pc := 54) (Ls := (lc6 i0 i1 i2 i3 1 w0 (own_inward i1) (own_inward i2) (own_inward i3))) hml rfl (lenOf pd_1 rfl) at_54 hby
    obtain ⟨b1, b2, k1, k2, rfl, Nr6q, Kr6, sz1, sz2, ne1, O1, f6, f7, f8, f9, f10, f11, f12, f13, f14⟩ := hQr6
    have N4 := Fr.app N3 Nr6q
    have f15 : Exa Z Tr6.heap br5 zs2 := (Ar5.keep Kr6)
    have Z_2 : n0 ≤ Tr6.heap.size := Nat.le_trans Z_1 Kr6.1
    obtain ⟨_, Tr7, Lr7, Xr7, hQr7, str7⟩ := ocallV Xr6 hx hZ zm2 zm2 hown (ww hw 27 rfl) (ww hw 28 rfl) (notFace_of_selects (args := #[]) (mvT hZ (ww hw 30 rfl))) (ww hw 30 rfl) (ww hw 29 rfl) (by decide) (ww hw 31 rfl) (ww hw 11 rfl) rfl f15 (rm4_5 l Z a0 hw [] br5 Tr6.heap n0 Z_2 f9) (st := [(.ref br5)]) rfl 0 rfl (by decide) (pc := 61) (Ls := (lc8 i0 i1 i2 i3 1 w0 (own_inward i1) (own_inward i2) (own_inward i3) br5)) hml rfl (lenOf pd_2 rfl) at_61 hby
    obtain ⟨rfl, Nr7q, er7⟩ := hQr7
    have N5 := Fr.app N4 Nr7q
    have f16 : Sta Z Tr6.heap zs6 "BUY" zs4 (.ref w0) := (own_staK (Sta.ext Er5 S0) Kr6 (allS (own_nsF f1) all0))
    have g2 : n0 ≤ b1 := Nat.le_trans Z_1 sz1
    have ne2 : br5 ≠ b1 := Nat.ne_of_lt (Nat.lt_of_lt_of_le (f1.lt) sz1)
    have g3 : n0 ≤ b2 := Nat.le_trans Z_1 sz2
    have ne3 : br5 ≠ b2 := Nat.ne_of_lt (Nat.lt_of_lt_of_le (f1.lt) sz2)
    have hc1 : ¬ ((own_inward i1) = (-9223372036854775808 : Int64)) := (fun e => by have := congrArg Int64.toInt e; have := own_inward_b i1; have := (by decide : ((-9223372036854775808 : Int64)).toInt = -9223372036854775808); omega)
    have hc2 : ¬ ((own_inward i1) = (9223372036854775807 : Int64)) := (fun e => by have := congrArg Int64.toInt e; have := own_inward_b i1; have := (by decide : ((9223372036854775807 : Int64)).toInt = 9223372036854775807); omega)
    obtain ⟨_, Tr8, Lr8, Xr8, hQr8, str8⟩ := ocallV Xr7 hx hZ zm7 zm7 hown (ww hw 34 rfl) (ww hw 35 rfl) (notFace_of_selects (args := #[]) (mvT hZ (ww hw 37 rfl))) (ww hw 37 rfl) (ww hw 36 rfl) (by decide) (ww hw 38 rfl) (ww hw 11 rfl) er7 f15 (rm5_11 l Z a0 hw [] br5 (own_inward i1) w0 b1 k1 b2 k2 Tr6.heap n0 Z_2 f8 f16 f15 f9 hc1 hc2 f6 f12 g2 O1 f7 ne2 f14 (Ne.symm ne1) g3 ne3 f10 g1) (st := [.null, (.long (own_inward i1)), (.ref br5)]) rfl 0 rfl (by decide) (pc := 74) (Ls := (lc8 i0 i1 i2 i3 1 w0 (own_inward i1) (own_inward i2) (own_inward i3) br5)) hml rfl (lenOf pd_6 rfl) at_74 hby
    obtain ⟨b3, rfl, Nr8q, Kr8, sz3, f17, f18, f19, f20, f21, f22, f23, f24, f25, f26, f27⟩ := hQr8
    have N6 := Fr.app N5 Nr8q
    have f28 : Exa Z Tr8.heap br5 zs2 := (f15.keep Kr8)
    have Z_3 : n0 ≤ Tr8.heap.size := Nat.le_trans Z_2 Kr8.1
    obtain ⟨_, Tr9, Lr9, Xr9, hQr9, str9⟩ := ocallV Xr8 hx hZ zm2 zm2 hown (ww hw 27 rfl) (ww hw 28 rfl) (notFace_of_selects (args := #[]) (mvT hZ (ww hw 30 rfl))) (ww hw 30 rfl) (ww hw 29 rfl) (by decide) (ww hw 31 rfl) (ww hw 11 rfl) rfl f28 (rm4_12 l Z a0 hw [] br5 b1 b3 k1 Tr8.heap n0 Z_3 f20 f21 f17) (st := [(.ref br5)]) rfl 0 rfl (by decide) (pc := 81) (Ls := (lc24 i0 i1 i2 i3 1 w0 (own_inward i1) (own_inward i2) (own_inward i3) br5 b3)) hml rfl (lenOf pd_2 rfl) at_81 hby
    obtain ⟨rfl, Nr9q, er9⟩ := hQr9
    have N7 := Fr.app N6 Nr9q
    have f29 : Sta Z Tr8.heap zs6 "BUY" zs4 (.ref w0) := (own_staK f16 Kr8 (allS (own_nsE f11) (allS (own_nsE f13) (allS (own_nsE (Ar5.keep Kr6)) all0))))
    by_cases hk2 : (own_inward i1) < (own_inward i2)
    · have hc5 : (own_inward i1) < (own_inward i2) := hk2
      have hc3 : ¬ ((own_inward i2) = (-9223372036854775808 : Int64)) := (fun e => by have := congrArg Int64.toInt e; have := own_inward_b i2; have := (by decide : ((-9223372036854775808 : Int64)).toInt = -9223372036854775808); omega)
      have hc4 : ¬ ((own_inward i2) = (9223372036854775807 : Int64)) := (fun e => by have := congrArg Int64.toInt e; have := own_inward_b i2; have := (by decide : ((9223372036854775807 : Int64)).toInt = 9223372036854775807); omega)
      obtain ⟨_, Tr10, Lr10, Xr10, hQr10, str10⟩ := ocallV Xr9 hx hZ zm7 zm7 hown (ww hw 34 rfl) (ww hw 35 rfl) (notFace_of_selects (args := #[]) (mvT hZ (ww hw 37 rfl))) (ww hw 37 rfl) (ww hw 36 rfl) (by decide) (ww hw 38 rfl) (ww hw 11 rfl) er9 f28 (rm5_17 l Z a0 hw [] br5 (own_inward i2) w0 b2 (own_inward i1) k2 b1 b3 k1 Tr8.heap n0 Z_3 f19 f29 f28 f20 f22 f18 hc5 hc3 hc4 f21 f17 g2 O1 ne2 (Ne.symm ne1) g3 ne3 f23 g1) (st := [.null, (.long (own_inward i2)), (.ref br5)]) rfl 0 rfl (by decide) (pc := 96) (Ls := (lc24 i0 i1 i2 i3 1 w0 (own_inward i1) (own_inward i2) (own_inward i3) br5 b3)) hml rfl (lenOf pd_6 rfl) at_96 hby
      obtain ⟨b4, rfl, Nr10q, Kr10, sz4, f30, f31, f32, f33, f34, f35, f36, f37, f38, f39, f40⟩ := hQr10
      have N8 := Fr.app N7 Nr10q
      have Z_4 : n0 ≤ Tr10.heap.size := Nat.le_trans Z_3 Kr10.1
      obtain ⟨_, Tr11, Lr11, Xr11, hQr11, str11⟩ := ocallS Xr10 hx hZ zm8 hown (ww hw 69 rfl) (ww hw 70 rfl) (by decide) (ww hw 71 rfl) (ww hw 5 rfl) rfl (rm10_18 l Z a0 hw [] (own_inward i2) (own_inward i1) Tr10.heap n0 Z_4 hc5) (st := [(.long (own_inward i1)), (.long (own_inward i2)), (.int 1)]) rfl 0 rfl (by decide) (pc := 107) (Ls := (lc25 i0 i1 i2 i3 1 w0 (own_inward i1) (own_inward i2) (own_inward i3) br5 b3 b4)) hml rfl (lenOf pd_7 rfl) at_107 hby
      obtain ⟨rfl, Nr11q, er11⟩ := hQr11
      have N9 := Fr.app N8 Nr11q
      refine own_go (U' := Tr11.setTop (mkF m 114 (lc27 i0 i1 i2 i3 1 w0 (own_inward i1) (own_inward i2) (own_inward i3) br5 b3 b4 1) [(.int 1)])) (fun t k => oifN X0 hx hby at_15 (by decide) (str1 _ (ogoto (pc := 21) Xr1 hx hby at_21 27 (by decide) (oastore Xr1 hx hby at_27 (lc2 i0 i1 i2 i3 1 w0) rfl rfl (olloadN Xr1 hx hby at_29 rfl (str2 _ (olstore Xr2 hx hby at_33 (lc4 i0 i1 i2 i3 1 w0 (own_inward i1)) rfl (olloadN Xr2 hx hby at_35 rfl (str3 _ (olstore Xr3 hx hby at_39 (lc5 i0 i1 i2 i3 1 w0 (own_inward i1) (own_inward i2)) rfl (olload Xr3 hx hby at_41 rfl (str4 _ (olstore Xr4 hx hby at_46 (lc6 i0 i1 i2 i3 1 w0 (own_inward i1) (own_inward i2) (own_inward i3)) rfl (str5 _ (odup Xr5 hx hby at_51 rfl (oaload Xr5 hx hby at_52 rfl rfl (str6 _ (oastore Xr6 hx hby at_57 (lc8 i0 i1 i2 i3 1 w0 (own_inward i1) (own_inward i2) (own_inward i3) br5) rfl rfl (oaload Xr6 hx hby at_59 rfl rfl (str7 _ (onlY (pc := 64) Xr7 hx hby at_64 69 (by decide) (oaload Xr7 hx hby at_69 rfl rfl (olload Xr7 hx hby at_71 rfl (onull Xr7 hx hby at_73 (str8 _ (oastore Xr8 hx hby at_77 (lc24 i0 i1 i2 i3 1 w0 (own_inward i1) (own_inward i2) (own_inward i3) br5 b3) rfl rfl (oaload Xr8 hx hby at_79 rfl rfl (str9 _ (oaload Xr9 hx hby at_84 rfl rfl (oacmp (pc := 86) Xr9 hx hby at_86 91 (same := true) rfl rfl (decide_eq_true rfl) (by decide) (oaload Xr9 hx hby at_91 rfl rfl (olload Xr9 hx hby at_93 rfl (onull Xr9 hx hby at_95 (str10 _ (oastore Xr10 hx hby at_99 (lc25 i0 i1 i2 i3 1 w0 (own_inward i1) (own_inward i2) (own_inward i3) br5 b3 b4) rfl rfl (oiload Xr10 hx hby at_101 rfl (olload Xr10 hx hby at_103 rfl (olload Xr10 hx hby at_105 rfl (str11 _ (oistore Xr11 hx hby at_110 (lc27 i0 i1 i2 i3 1 w0 (own_inward i1) (own_inward i2) (own_inward i3) br5 b3 b4 1) rfl (oiload Xr11 hx hby at_112 rfl k))))))))))))))))))))))))))))))))))))))))) ?_
      refine own_go (U' := Tr11.setTop (mkF m 128 (lc28 i0 i1 i2 i3 1 w0 (own_inward i1) (own_inward i2) (own_inward i3) br5 b3 b4 1 b4) [(.int 1)])) (fun t k => oifN Xr11 hx hby at_114 (by decide) (oaload Xr11 hx hby at_117 rfl rfl (ogoto (pc := 119) Xr11 hx hby at_119 124 (by decide) (oastore Xr11 hx hby at_124 (lc28 i0 i1 i2 i3 1 w0 (own_inward i1) (own_inward i2) (own_inward i3) br5 b3 b4 1 b4) rfl rfl (oiload Xr11 hx hby at_126 rfl k))))) ?_
      have f41 : Exa Z Tr10.heap br5 zs2 := (f28.keep Kr10)
      obtain ⟨_, Tr12, Lr12, Xr12, hQr12, str12⟩ := ocallV Xr11 hx hZ zm2 zm2 hown (ww hw 27 rfl) (ww hw 28 rfl) (notFace_of_selects (args := #[]) (mvT hZ (ww hw 30 rfl))) (ww hw 30 rfl) (ww hw 29 rfl) (by decide) (ww hw 31 rfl) (ww hw 11 rfl) er11 f41 (rm4_19 l Z a0 hw [] br5 b1 b3 b4 k1 Tr10.heap n0 Z_4 f33 f35 f30) (st := [(.ref br5)]) rfl 0 rfl (by decide) (pc := 142) (Ls := (lc29 i0 i1 i2 i3 1 w0 (own_inward i1) (own_inward i2) (own_inward i3) br5 b3 b4 1 b4 (own_inward i2))) hml rfl (lenOf pd_2 rfl) at_142 hby
      obtain ⟨rfl, Nr12q, er12⟩ := hQr12
      have N10 := Fr.app N9 Nr12q
      have f42 : Sta Z Tr10.heap zs6 "BUY" zs4 (.ref w0) := (own_staK f29 Kr10 (allS (own_nsE (f11.keep Kr8)) (allS (own_nsE (f13.keep Kr8)) (allS (own_nsE ((Ar5.keep Kr6).keep Kr8)) all0))))
      by_cases hk3 : (own_inward i2) < (own_inward i3)
      · have hc8 : (own_inward i2) < (own_inward i3) := hk3
        have hc6 : ¬ ((own_inward i3) = (-9223372036854775808 : Int64)) := (fun e => by have := congrArg Int64.toInt e; have := own_inward_b i3; have := (by decide : ((-9223372036854775808 : Int64)).toInt = -9223372036854775808); omega)
        have hc7 : ¬ ((own_inward i3) = (9223372036854775807 : Int64)) := (fun e => by have := congrArg Int64.toInt e; have := own_inward_b i3; have := (by decide : ((9223372036854775807 : Int64)).toInt = 9223372036854775807); omega)
        obtain ⟨_, Tr13, Lr13, Xr13, hQr13, str13⟩ := ocallV Xr12 hx hZ zm7 zm7 hown (ww hw 34 rfl) (ww hw 35 rfl) (notFace_of_selects (args := #[]) (mvT hZ (ww hw 37 rfl))) (ww hw 37 rfl) (ww hw 36 rfl) (by decide) (ww hw 38 rfl) (ww hw 11 rfl) er12 f41 (rm5_23 l Z a0 hw [] br5 (own_inward i3) w0 b2 (own_inward i1) (own_inward i2) k2 b1 b3 b4 k1 Tr10.heap n0 Z_4 f32 f42 f41 f33 f34 f31 hc8 hc6 hc7 f35 f30 g2 O1 ne2 (Ne.symm ne1) g3 ne3 f36 g1) (st := [.null, (.long (own_inward i3)), (.ref br5)]) rfl 0 rfl (by decide) (pc := 157) (Ls := (lc29 i0 i1 i2 i3 1 w0 (own_inward i1) (own_inward i2) (own_inward i3) br5 b3 b4 1 b4 (own_inward i2))) hml rfl (lenOf pd_6 rfl) at_157 hby
        obtain ⟨b5, rfl, Nr13q, Kr13, sz5, f43, f44, f45, f46, f47, f48, f49, f50, f51, f52, f53⟩ := hQr13
        have N11 := Fr.app N10 Nr13q
        have Z_5 : n0 ≤ Tr13.heap.size := Nat.le_trans Z_4 Kr13.1
        obtain ⟨_, Tr14, Lr14, Xr14, hQr14, str14⟩ := ocallS Xr13 hx hZ zm8 hown (ww hw 69 rfl) (ww hw 70 rfl) (by decide) (ww hw 71 rfl) (ww hw 5 rfl) rfl (rm10_18 l Z a0 hw [] (own_inward i3) (own_inward i2) Tr13.heap n0 Z_5 hc8) (st := [(.long (own_inward i2)), (.long (own_inward i3)), (.int 1)]) rfl 0 rfl (by decide) (pc := 168) (Ls := (lc30 i0 i1 i2 i3 1 w0 (own_inward i1) (own_inward i2) (own_inward i3) br5 b3 b4 1 b4 (own_inward i2) b5)) hml rfl (lenOf pd_7 rfl) at_168 hby
        obtain ⟨rfl, Nr14q, er14⟩ := hQr14
        have N12 := Fr.app N11 Nr14q
        refine own_go (U' := Tr14.setTop (mkF m 171 (lc30 i0 i1 i2 i3 1 w0 (own_inward i1) (own_inward i2) (own_inward i3) br5 b3 b4 1 b4 (own_inward i2) b5) [(.int 1)])) (fun t k => oifN Xr11 hx hby at_128 (by decide) (olload Xr11 hx hby at_131 rfl (ogoto (pc := 133) Xr11 hx hby at_133 138 (by decide) (olstore Xr11 hx hby at_138 (lc29 i0 i1 i2 i3 1 w0 (own_inward i1) (own_inward i2) (own_inward i3) br5 b3 b4 1 b4 (own_inward i2)) rfl (oaload Xr11 hx hby at_140 rfl rfl (str12 _ (oaload Xr12 hx hby at_145 rfl rfl (oacmp (pc := 147) Xr12 hx hby at_147 152 (same := true) rfl rfl (decide_eq_true rfl) (by decide) (oaload Xr12 hx hby at_152 rfl rfl (olload Xr12 hx hby at_154 rfl (onull Xr12 hx hby at_156 (str13 _ (oastore Xr13 hx hby at_160 (lc30 i0 i1 i2 i3 1 w0 (own_inward i1) (own_inward i2) (own_inward i3) br5 b3 b4 1 b4 (own_inward i2) b5) rfl rfl (oiload Xr13 hx hby at_162 rfl (olload Xr13 hx hby at_164 rfl (olload Xr13 hx hby at_166 rfl (str14 _ k))))))))))))))))) ?_
        have f54 : Exa Z Tr13.heap br5 zs2 := (f41.keep Kr13)
        obtain ⟨_, Tr15, Lr15, Xr15, hQr15, str15⟩ := ocallV Xr14 hx hZ zm2 zm2 hown (ww hw 27 rfl) (ww hw 28 rfl) (notFace_of_selects (args := #[]) (mvT hZ (ww hw 30 rfl))) (ww hw 30 rfl) (ww hw 29 rfl) (by decide) (ww hw 31 rfl) (ww hw 11 rfl) er14 f54 (rm4_24 l Z a0 hw [] br5 b1 b3 b4 b5 k1 Tr13.heap n0 Z_5 f46 f48 f43) (st := [(.ref br5)]) rfl 0 rfl (by decide) (pc := 185) (Ls := (lc31 i0 i1 i2 i3 1 w0 (own_inward i1) (own_inward i2) (own_inward i3) br5 b3 b4 1 b4 (own_inward i2) b5 b5)) hml rfl (lenOf pd_2 rfl) at_185 hby
        obtain ⟨rfl, Nr15q, er15⟩ := hQr15
        have N13 := Fr.app N12 Nr15q
        refine own_go (U' := Tr15.setTop (mkF m 198 (lc31 i0 i1 i2 i3 1 w0 (own_inward i1) (own_inward i2) (own_inward i3) br5 b3 b4 1 b4 (own_inward i2) b5 b5) [(.int 1)])) (fun t k => oifN Xr14 hx hby at_171 (by decide) (oaload Xr14 hx hby at_174 rfl rfl (ogoto (pc := 176) Xr14 hx hby at_176 181 (by decide) (oastore Xr14 hx hby at_181 (lc31 i0 i1 i2 i3 1 w0 (own_inward i1) (own_inward i2) (own_inward i3) br5 b3 b4 1 b4 (own_inward i2) b5 b5) rfl rfl (oaload Xr14 hx hby at_183 rfl rfl (str15 _ (oaload Xr15 hx hby at_188 rfl rfl (oacmp (pc := 190) Xr15 hx hby at_190 193 (same := true) rfl rfl (decide_eq_true rfl) (by decide) (oiconst Xr15 hx hby at_193 (ogoto (pc := 194) Xr15 hx hby at_194 198 (by decide) k)))))))))) ?_
        obtain ⟨fs, hr, hrun, hended, hW, hsame⟩ := Xr15.leave (v := some (.int 1)) (fun h => by rw [Bd.returns] at h; cases h)
        refine own_out ⟨_, _, ?_, hrun, hended, _, _, rfl, ?_, ⟨_, rfl⟩, hW, hsame.mono (by decide) (by decide)⟩
        · exact retN Xr15 hx (t := .boolean) Bd.returns (by simp) (hb hby at_198) hr
        · exact ⟨rfl, N13⟩
      · by_cases hk4 : (own_inward i1) < (own_inward i3)
        · have hc9 : ¬ ((own_inward i2) < (own_inward i3)) := hk3
          have hc10 : (own_inward i1) < (own_inward i3) := hk4
          have hc6 : ¬ ((own_inward i3) = (-9223372036854775808 : Int64)) := (fun e => by have := congrArg Int64.toInt e; have := own_inward_b i3; have := (by decide : ((-9223372036854775808 : Int64)).toInt = -9223372036854775808); omega)
          have hc7 : ¬ ((own_inward i3) = (9223372036854775807 : Int64)) := (fun e => by have := congrArg Int64.toInt e; have := own_inward_b i3; have := (by decide : ((9223372036854775807 : Int64)).toInt = 9223372036854775807); omega)
          by_cases hk5 : (own_inward i2) = (own_inward i3)
          · have hc11 : (own_inward i2) = (own_inward i3) := hk5
            obtain ⟨_, Tr13, Lr13, Xr13, hQr13, str13⟩ := ocallV Xr12 hx hZ zm7 zm7 hown (ww hw 34 rfl) (ww hw 35 rfl) (notFace_of_selects (args := #[]) (mvT hZ (ww hw 37 rfl))) (ww hw 37 rfl) (ww hw 36 rfl) (by decide) (ww hw 38 rfl) (ww hw 11 rfl) er12 f41 (rm5_28 l Z a0 hw [] br5 (own_inward i3) w0 b2 (own_inward i1) (own_inward i2) k2 b1 b3 b4 k1 Tr10.heap n0 Z_4 f32 f42 f41 f33 f34 f31 hc9 hc10 hc6 hc7 hc11 f35 f30 f37 f40 f36 g1 (Ne.symm ne2)) (st := [.null, (.long (own_inward i3)), (.ref br5)]) rfl 0 rfl (by decide) (pc := 157) (Ls := (lc29 i0 i1 i2 i3 1 w0 (own_inward i1) (own_inward i2) (own_inward i3) br5 b3 b4 1 b4 (own_inward i2))) hml rfl (lenOf pd_6 rfl) at_157 hby
            obtain ⟨rfl, Nr13q, Kr13, f43, f44, f45, f46, f47⟩ := hQr13
            have N11 := Fr.app N10 Nr13q
            have Z_5 : n0 ≤ Tr13.heap.size := Nat.le_trans Z_4 Kr13.1
            obtain ⟨_, Tr14, Lr14, Xr14, hQr14, str14⟩ := ocallS Xr13 hx hZ zm8 hown (ww hw 69 rfl) (ww hw 70 rfl) (by decide) (ww hw 71 rfl) (ww hw 5 rfl) rfl (rm10_29 l Z a0 hw [] (own_inward i3) (own_inward i2) Tr13.heap n0 Z_5 hc9) (st := [(.long (own_inward i2)), (.long (own_inward i3)), (.int 1)]) rfl 0 rfl (by decide) (pc := 168) (Ls := (lc30 i0 i1 i2 i3 1 w0 (own_inward i1) (own_inward i2) (own_inward i3) br5 b3 b4 1 b4 (own_inward i2) b4)) hml rfl (lenOf pd_7 rfl) at_168 hby
            obtain ⟨rfl, Nr14q, er14⟩ := hQr14
            have N12 := Fr.app N11 Nr14q
            refine own_go (U' := Tr14.setTop (mkF m 171 (lc30 i0 i1 i2 i3 1 w0 (own_inward i1) (own_inward i2) (own_inward i3) br5 b3 b4 1 b4 (own_inward i2) b4) [(.int 0)])) (fun t k => oifN Xr11 hx hby at_128 (by decide) (olload Xr11 hx hby at_131 rfl (ogoto (pc := 133) Xr11 hx hby at_133 138 (by decide) (olstore Xr11 hx hby at_138 (lc29 i0 i1 i2 i3 1 w0 (own_inward i1) (own_inward i2) (own_inward i3) br5 b3 b4 1 b4 (own_inward i2)) rfl (oaload Xr11 hx hby at_140 rfl rfl (str12 _ (oaload Xr12 hx hby at_145 rfl rfl (oacmp (pc := 147) Xr12 hx hby at_147 152 (same := true) rfl rfl (decide_eq_true rfl) (by decide) (oaload Xr12 hx hby at_152 rfl rfl (olload Xr12 hx hby at_154 rfl (onull Xr12 hx hby at_156 (str13 _ (oastore Xr13 hx hby at_160 (lc30 i0 i1 i2 i3 1 w0 (own_inward i1) (own_inward i2) (own_inward i3) br5 b3 b4 1 b4 (own_inward i2) b4) rfl rfl (oiload Xr13 hx hby at_162 rfl (olload Xr13 hx hby at_164 rfl (olload Xr13 hx hby at_166 rfl (str14 _ k))))))))))))))))) ?_
            have f48 : Exa Z Tr13.heap br5 zs2 := (f41.keep Kr13)
            have f49 : Arv Z Tr13.heap b1 k1 (.object zs1) (16 : Int32) [(.ref b3), (.ref b4)] .null := (f30.keep Kr13 (ninS (Ne.symm ne2) nin0))
            obtain ⟨_, Tr15, Lr15, Xr15, hQr15, str15⟩ := ocallV Xr14 hx hZ zm2 zm2 hown (ww hw 27 rfl) (ww hw 28 rfl) (notFace_of_selects (args := #[]) (mvT hZ (ww hw 30 rfl))) (ww hw 30 rfl) (ww hw 29 rfl) (by decide) (ww hw 31 rfl) (ww hw 11 rfl) er14 f48 (rm4_19 l Z a0 hw [] br5 b1 b3 b4 k1 Tr13.heap n0 Z_5 f44 f46 f49) (st := [(.ref br5)]) rfl 0 rfl (by decide) (pc := 185) (Ls := (lc31 i0 i1 i2 i3 1 w0 (own_inward i1) (own_inward i2) (own_inward i3) br5 b3 b4 1 b4 (own_inward i2) b4 b4)) hml rfl (lenOf pd_2 rfl) at_185 hby
            obtain ⟨rfl, Nr15q, er15⟩ := hQr15
            have N13 := Fr.app N12 Nr15q
            refine own_go (U' := Tr15.setTop (mkF m 198 (lc31 i0 i1 i2 i3 1 w0 (own_inward i1) (own_inward i2) (own_inward i3) br5 b3 b4 1 b4 (own_inward i2) b4 b4) [(.int 1)])) (fun t k => oifY (pc := 171) Xr14 hx hby at_171 179 (by decide) (by decide) (oaload Xr14 hx hby at_179 rfl rfl (oastore Xr14 hx hby at_181 (lc31 i0 i1 i2 i3 1 w0 (own_inward i1) (own_inward i2) (own_inward i3) br5 b3 b4 1 b4 (own_inward i2) b4 b4) rfl rfl (oaload Xr14 hx hby at_183 rfl rfl (str15 _ (oaload Xr15 hx hby at_188 rfl rfl (oacmp (pc := 190) Xr15 hx hby at_190 193 (same := true) rfl rfl (decide_eq_true rfl) (by decide) (oiconst Xr15 hx hby at_193 (ogoto (pc := 194) Xr15 hx hby at_194 198 (by decide) k))))))))) ?_
            obtain ⟨fs, hr, hrun, hended, hW, hsame⟩ := Xr15.leave (v := some (.int 1)) (fun h => by rw [Bd.returns] at h; cases h)
            refine own_out ⟨_, _, ?_, hrun, hended, _, _, rfl, ?_, ⟨_, rfl⟩, hW, hsame.mono (by decide) (by decide)⟩
            · exact retN Xr15 hx (t := .boolean) Bd.returns (by simp) (hb hby at_198) hr
            · exact ⟨rfl, N13⟩
          · have hc12 : ¬ ((own_inward i2) = (own_inward i3)) := hk5
            obtain ⟨_, Tr13, Lr13, Xr13, hQr13, str13⟩ := ocallV Xr12 hx hZ zm7 zm7 hown (ww hw 34 rfl) (ww hw 35 rfl) (notFace_of_selects (args := #[]) (mvT hZ (ww hw 37 rfl))) (ww hw 37 rfl) (ww hw 36 rfl) (by decide) (ww hw 38 rfl) (ww hw 11 rfl) er12 f41 (rm5_32 l Z a0 hw [] br5 (own_inward i3) w0 b2 (own_inward i1) (own_inward i2) k2 b1 b3 b4 k1 Tr10.heap n0 Z_4 f32 f42 f41 f33 f34 f31 hc9 hc10 hc6 hc7 hc12 f35 f30 g2 O1 f37 ne2 (Ne.symm ne1) g3 ne3 f36 g1) (st := [.null, (.long (own_inward i3)), (.ref br5)]) rfl 0 rfl (by decide) (pc := 157) (Ls := (lc29 i0 i1 i2 i3 1 w0 (own_inward i1) (own_inward i2) (own_inward i3) br5 b3 b4 1 b4 (own_inward i2))) hml rfl (lenOf pd_6 rfl) at_157 hby
            obtain ⟨b5, rfl, Nr13q, Kr13, sz5, f43, f44, f45, f46, f47, f48, f49, f50, f51, f52, f53⟩ := hQr13
            have N11 := Fr.app N10 Nr13q
            have Z_5 : n0 ≤ Tr13.heap.size := Nat.le_trans Z_4 Kr13.1
            obtain ⟨_, Tr14, Lr14, Xr14, hQr14, str14⟩ := ocallS Xr13 hx hZ zm8 hown (ww hw 69 rfl) (ww hw 70 rfl) (by decide) (ww hw 71 rfl) (ww hw 5 rfl) rfl (rm10_29 l Z a0 hw [] (own_inward i3) (own_inward i2) Tr13.heap n0 Z_5 hc9) (st := [(.long (own_inward i2)), (.long (own_inward i3)), (.int 1)]) rfl 0 rfl (by decide) (pc := 168) (Ls := (lc30 i0 i1 i2 i3 1 w0 (own_inward i1) (own_inward i2) (own_inward i3) br5 b3 b4 1 b4 (own_inward i2) b5)) hml rfl (lenOf pd_7 rfl) at_168 hby
            obtain ⟨rfl, Nr14q, er14⟩ := hQr14
            have N12 := Fr.app N11 Nr14q
            refine own_go (U' := Tr14.setTop (mkF m 171 (lc30 i0 i1 i2 i3 1 w0 (own_inward i1) (own_inward i2) (own_inward i3) br5 b3 b4 1 b4 (own_inward i2) b5) [(.int 0)])) (fun t k => oifN Xr11 hx hby at_128 (by decide) (olload Xr11 hx hby at_131 rfl (ogoto (pc := 133) Xr11 hx hby at_133 138 (by decide) (olstore Xr11 hx hby at_138 (lc29 i0 i1 i2 i3 1 w0 (own_inward i1) (own_inward i2) (own_inward i3) br5 b3 b4 1 b4 (own_inward i2)) rfl (oaload Xr11 hx hby at_140 rfl rfl (str12 _ (oaload Xr12 hx hby at_145 rfl rfl (oacmp (pc := 147) Xr12 hx hby at_147 152 (same := true) rfl rfl (decide_eq_true rfl) (by decide) (oaload Xr12 hx hby at_152 rfl rfl (olload Xr12 hx hby at_154 rfl (onull Xr12 hx hby at_156 (str13 _ (oastore Xr13 hx hby at_160 (lc30 i0 i1 i2 i3 1 w0 (own_inward i1) (own_inward i2) (own_inward i3) br5 b3 b4 1 b4 (own_inward i2) b5) rfl rfl (oiload Xr13 hx hby at_162 rfl (olload Xr13 hx hby at_164 rfl (olload Xr13 hx hby at_166 rfl (str14 _ k))))))))))))))))) ?_
            have f54 : Exa Z Tr13.heap br5 zs2 := (f41.keep Kr13)
            obtain ⟨_, Tr15, Lr15, Xr15, hQr15, str15⟩ := ocallV Xr14 hx hZ zm2 zm2 hown (ww hw 27 rfl) (ww hw 28 rfl) (notFace_of_selects (args := #[]) (mvT hZ (ww hw 30 rfl))) (ww hw 30 rfl) (ww hw 29 rfl) (by decide) (ww hw 31 rfl) (ww hw 11 rfl) er14 f54 (rm4_24 l Z a0 hw [] br5 b1 b3 b5 b4 k1 Tr13.heap n0 Z_5 f46 f48 f43) (st := [(.ref br5)]) rfl 0 rfl (by decide) (pc := 185) (Ls := (lc31 i0 i1 i2 i3 1 w0 (own_inward i1) (own_inward i2) (own_inward i3) br5 b3 b4 1 b4 (own_inward i2) b5 b4)) hml rfl (lenOf pd_2 rfl) at_185 hby
            obtain ⟨rfl, Nr15q, er15⟩ := hQr15
            have N13 := Fr.app N12 Nr15q
            refine own_go (U' := Tr15.setTop (mkF m 198 (lc31 i0 i1 i2 i3 1 w0 (own_inward i1) (own_inward i2) (own_inward i3) br5 b3 b4 1 b4 (own_inward i2) b5 b4) [(.int 1)])) (fun t k => oifY (pc := 171) Xr14 hx hby at_171 179 (by decide) (by decide) (oaload Xr14 hx hby at_179 rfl rfl (oastore Xr14 hx hby at_181 (lc31 i0 i1 i2 i3 1 w0 (own_inward i1) (own_inward i2) (own_inward i3) br5 b3 b4 1 b4 (own_inward i2) b5 b4) rfl rfl (oaload Xr14 hx hby at_183 rfl rfl (str15 _ (oaload Xr15 hx hby at_188 rfl rfl (oacmp (pc := 190) Xr15 hx hby at_190 193 (same := true) rfl rfl (decide_eq_true rfl) (by decide) (oiconst Xr15 hx hby at_193 (ogoto (pc := 194) Xr15 hx hby at_194 198 (by decide) k))))))))) ?_
            obtain ⟨fs, hr, hrun, hended, hW, hsame⟩ := Xr15.leave (v := some (.int 1)) (fun h => by rw [Bd.returns] at h; cases h)
            refine own_out ⟨_, _, ?_, hrun, hended, _, _, rfl, ?_, ⟨_, rfl⟩, hW, hsame.mono (by decide) (by decide)⟩
            · exact retN Xr15 hx (t := .boolean) Bd.returns (by simp) (hb hby at_198) hr
            · exact ⟨rfl, N13⟩
        · have f43 : Exa Z Tr10.heap b3 zs1 := (f24.keep Kr10)
          by_cases hk6 : (own_inward i1) = (own_inward i3)
          · have ne4 : br5 ≠ b3 := Nat.ne_of_lt (Nat.lt_of_lt_of_le (Nat.lt_of_lt_of_le (f1.lt) Kr6.1) sz3)
            have ne5 : b2 ≠ b3 := Nat.ne_of_lt (Nat.lt_of_lt_of_le (f13.lt) sz3)
            have ne6 : b1 ≠ b3 := Nat.ne_of_lt (Nat.lt_of_lt_of_le (f11.lt) sz3)
            have f44 : Fld Z Tr10.heap b3 zs1 "first" zs11 .null := (f27.keep Kr10 (ninS (Ne.symm ne6) (ninS (Ne.symm ne5) (ninS (Ne.symm ne4) nin0))))
            have hc9 : ¬ ((own_inward i2) < (own_inward i3)) := hk3
            have hc13 : ¬ ((own_inward i1) < (own_inward i3)) := hk4
            have hc6 : ¬ ((own_inward i3) = (-9223372036854775808 : Int64)) := (fun e => by have := congrArg Int64.toInt e; have := own_inward_b i3; have := (by decide : ((-9223372036854775808 : Int64)).toInt = -9223372036854775808); omega)
            have hc7 : ¬ ((own_inward i3) = (9223372036854775807 : Int64)) := (fun e => by have := congrArg Int64.toInt e; have := own_inward_b i3; have := (by decide : ((9223372036854775807 : Int64)).toInt = 9223372036854775807); omega)
            have hc14 : (own_inward i1) = (own_inward i3) := hk6
            obtain ⟨_, Tr13, Lr13, Xr13, hQr13, str13⟩ := ocallV Xr12 hx hZ zm7 zm7 hown (ww hw 34 rfl) (ww hw 35 rfl) (notFace_of_selects (args := #[]) (mvT hZ (ww hw 37 rfl))) (ww hw 37 rfl) (ww hw 36 rfl) (by decide) (ww hw 38 rfl) (ww hw 11 rfl) er12 f41 (rm5_35 l Z a0 hw [] br5 (own_inward i3) w0 b2 (own_inward i1) (own_inward i2) k2 b1 b3 b4 k1 Tr10.heap n0 Z_4 f32 f42 f41 f33 f34 f31 hc9 hc13 hc6 hc7 hc14 f35 f30 f43 f44 f36 g1 (Ne.symm ne2)) (st := [.null, (.long (own_inward i3)), (.ref br5)]) rfl 0 rfl (by decide) (pc := 157) (Ls := (lc29 i0 i1 i2 i3 1 w0 (own_inward i1) (own_inward i2) (own_inward i3) br5 b3 b4 1 b4 (own_inward i2))) hml rfl (lenOf pd_6 rfl) at_157 hby
            obtain ⟨rfl, Nr13q, Kr13, f45, f46, f47, f48, f49⟩ := hQr13
            have N11 := Fr.app N10 Nr13q
            have Z_5 : n0 ≤ Tr13.heap.size := Nat.le_trans Z_4 Kr13.1
            obtain ⟨_, Tr14, Lr14, Xr14, hQr14, str14⟩ := ocallS Xr13 hx hZ zm8 hown (ww hw 69 rfl) (ww hw 70 rfl) (by decide) (ww hw 71 rfl) (ww hw 5 rfl) rfl (rm10_29 l Z a0 hw [] (own_inward i3) (own_inward i2) Tr13.heap n0 Z_5 hc9) (st := [(.long (own_inward i2)), (.long (own_inward i3)), (.int 1)]) rfl 0 rfl (by decide) (pc := 168) (Ls := (lc30 i0 i1 i2 i3 1 w0 (own_inward i1) (own_inward i2) (own_inward i3) br5 b3 b4 1 b4 (own_inward i2) b3)) hml rfl (lenOf pd_7 rfl) at_168 hby
            obtain ⟨rfl, Nr14q, er14⟩ := hQr14
            have N12 := Fr.app N11 Nr14q
            refine own_go (U' := Tr14.setTop (mkF m 171 (lc30 i0 i1 i2 i3 1 w0 (own_inward i1) (own_inward i2) (own_inward i3) br5 b3 b4 1 b4 (own_inward i2) b3) [(.int 0)])) (fun t k => oifN Xr11 hx hby at_128 (by decide) (olload Xr11 hx hby at_131 rfl (ogoto (pc := 133) Xr11 hx hby at_133 138 (by decide) (olstore Xr11 hx hby at_138 (lc29 i0 i1 i2 i3 1 w0 (own_inward i1) (own_inward i2) (own_inward i3) br5 b3 b4 1 b4 (own_inward i2)) rfl (oaload Xr11 hx hby at_140 rfl rfl (str12 _ (oaload Xr12 hx hby at_145 rfl rfl (oacmp (pc := 147) Xr12 hx hby at_147 152 (same := true) rfl rfl (decide_eq_true rfl) (by decide) (oaload Xr12 hx hby at_152 rfl rfl (olload Xr12 hx hby at_154 rfl (onull Xr12 hx hby at_156 (str13 _ (oastore Xr13 hx hby at_160 (lc30 i0 i1 i2 i3 1 w0 (own_inward i1) (own_inward i2) (own_inward i3) br5 b3 b4 1 b4 (own_inward i2) b3) rfl rfl (oiload Xr13 hx hby at_162 rfl (olload Xr13 hx hby at_164 rfl (olload Xr13 hx hby at_166 rfl (str14 _ k))))))))))))))))) ?_
            have f50 : Exa Z Tr13.heap br5 zs2 := (f41.keep Kr13)
            have f51 : Arv Z Tr13.heap b1 k1 (.object zs1) (16 : Int32) [(.ref b3), (.ref b4)] .null := (f30.keep Kr13 (ninS (Ne.symm ne2) nin0))
            obtain ⟨_, Tr15, Lr15, Xr15, hQr15, str15⟩ := ocallV Xr14 hx hZ zm2 zm2 hown (ww hw 27 rfl) (ww hw 28 rfl) (notFace_of_selects (args := #[]) (mvT hZ (ww hw 30 rfl))) (ww hw 30 rfl) (ww hw 29 rfl) (by decide) (ww hw 31 rfl) (ww hw 11 rfl) er14 f50 (rm4_19 l Z a0 hw [] br5 b1 b3 b4 k1 Tr13.heap n0 Z_5 f46 f48 f51) (st := [(.ref br5)]) rfl 0 rfl (by decide) (pc := 185) (Ls := (lc31 i0 i1 i2 i3 1 w0 (own_inward i1) (own_inward i2) (own_inward i3) br5 b3 b4 1 b4 (own_inward i2) b3 b4)) hml rfl (lenOf pd_2 rfl) at_185 hby
            obtain ⟨rfl, Nr15q, er15⟩ := hQr15
            have N13 := Fr.app N12 Nr15q
            refine own_go (U' := Tr15.setTop (mkF m 198 (lc31 i0 i1 i2 i3 1 w0 (own_inward i1) (own_inward i2) (own_inward i3) br5 b3 b4 1 b4 (own_inward i2) b3 b4) [(.int 1)])) (fun t k => oifY (pc := 171) Xr14 hx hby at_171 179 (by decide) (by decide) (oaload Xr14 hx hby at_179 rfl rfl (oastore Xr14 hx hby at_181 (lc31 i0 i1 i2 i3 1 w0 (own_inward i1) (own_inward i2) (own_inward i3) br5 b3 b4 1 b4 (own_inward i2) b3 b4) rfl rfl (oaload Xr14 hx hby at_183 rfl rfl (str15 _ (oaload Xr15 hx hby at_188 rfl rfl (oacmp (pc := 190) Xr15 hx hby at_190 193 (same := true) rfl rfl (decide_eq_true rfl) (by decide) (oiconst Xr15 hx hby at_193 (ogoto (pc := 194) Xr15 hx hby at_194 198 (by decide) k))))))))) ?_
            obtain ⟨fs, hr, hrun, hended, hW, hsame⟩ := Xr15.leave (v := some (.int 1)) (fun h => by rw [Bd.returns] at h; cases h)
            refine own_out ⟨_, _, ?_, hrun, hended, _, _, rfl, ?_, ⟨_, rfl⟩, hW, hsame.mono (by decide) (by decide)⟩
            · exact retN Xr15 hx (t := .boolean) Bd.returns (by simp) (hb hby at_198) hr
            · exact ⟨rfl, N13⟩
          · have hc9 : ¬ ((own_inward i2) < (own_inward i3)) := hk3
            have hc13 : ¬ ((own_inward i1) < (own_inward i3)) := hk4
            have hc6 : ¬ ((own_inward i3) = (-9223372036854775808 : Int64)) := (fun e => by have := congrArg Int64.toInt e; have := own_inward_b i3; have := (by decide : ((-9223372036854775808 : Int64)).toInt = -9223372036854775808); omega)
            have hc7 : ¬ ((own_inward i3) = (9223372036854775807 : Int64)) := (fun e => by have := congrArg Int64.toInt e; have := own_inward_b i3; have := (by decide : ((9223372036854775807 : Int64)).toInt = 9223372036854775807); omega)
            have hc15 : ¬ ((own_inward i1) = (own_inward i3)) := hk6
            obtain ⟨_, Tr13, Lr13, Xr13, hQr13, str13⟩ := ocallV Xr12 hx hZ zm7 zm7 hown (ww hw 34 rfl) (ww hw 35 rfl) (notFace_of_selects (args := #[]) (mvT hZ (ww hw 37 rfl))) (ww hw 37 rfl) (ww hw 36 rfl) (by decide) (ww hw 38 rfl) (ww hw 11 rfl) er12 f41 (rm5_38 l Z a0 hw [] br5 (own_inward i3) w0 b2 (own_inward i1) (own_inward i2) k2 b1 b3 b4 k1 Tr10.heap n0 Z_4 f32 f42 f41 f33 f34 f31 hc9 hc13 hc6 hc7 hc15 f35 f30 g2 O1 f37 f43 ne2 (Ne.symm ne1) g3 ne3 f36 g1) (st := [.null, (.long (own_inward i3)), (.ref br5)]) rfl 0 rfl (by decide) (pc := 157) (Ls := (lc29 i0 i1 i2 i3 1 w0 (own_inward i1) (own_inward i2) (own_inward i3) br5 b3 b4 1 b4 (own_inward i2))) hml rfl (lenOf pd_6 rfl) at_157 hby
            obtain ⟨b5, rfl, Nr13q, Kr13, sz5, f44, f45, f46, f47, f48, f49, f50, f51, f52, f53, f54⟩ := hQr13
            have N11 := Fr.app N10 Nr13q
            have Z_5 : n0 ≤ Tr13.heap.size := Nat.le_trans Z_4 Kr13.1
            obtain ⟨_, Tr14, Lr14, Xr14, hQr14, str14⟩ := ocallS Xr13 hx hZ zm8 hown (ww hw 69 rfl) (ww hw 70 rfl) (by decide) (ww hw 71 rfl) (ww hw 5 rfl) rfl (rm10_29 l Z a0 hw [] (own_inward i3) (own_inward i2) Tr13.heap n0 Z_5 hc9) (st := [(.long (own_inward i2)), (.long (own_inward i3)), (.int 1)]) rfl 0 rfl (by decide) (pc := 168) (Ls := (lc30 i0 i1 i2 i3 1 w0 (own_inward i1) (own_inward i2) (own_inward i3) br5 b3 b4 1 b4 (own_inward i2) b5)) hml rfl (lenOf pd_7 rfl) at_168 hby
            obtain ⟨rfl, Nr14q, er14⟩ := hQr14
            have N12 := Fr.app N11 Nr14q
            refine own_go (U' := Tr14.setTop (mkF m 171 (lc30 i0 i1 i2 i3 1 w0 (own_inward i1) (own_inward i2) (own_inward i3) br5 b3 b4 1 b4 (own_inward i2) b5) [(.int 0)])) (fun t k => oifN Xr11 hx hby at_128 (by decide) (olload Xr11 hx hby at_131 rfl (ogoto (pc := 133) Xr11 hx hby at_133 138 (by decide) (olstore Xr11 hx hby at_138 (lc29 i0 i1 i2 i3 1 w0 (own_inward i1) (own_inward i2) (own_inward i3) br5 b3 b4 1 b4 (own_inward i2)) rfl (oaload Xr11 hx hby at_140 rfl rfl (str12 _ (oaload Xr12 hx hby at_145 rfl rfl (oacmp (pc := 147) Xr12 hx hby at_147 152 (same := true) rfl rfl (decide_eq_true rfl) (by decide) (oaload Xr12 hx hby at_152 rfl rfl (olload Xr12 hx hby at_154 rfl (onull Xr12 hx hby at_156 (str13 _ (oastore Xr13 hx hby at_160 (lc30 i0 i1 i2 i3 1 w0 (own_inward i1) (own_inward i2) (own_inward i3) br5 b3 b4 1 b4 (own_inward i2) b5) rfl rfl (oiload Xr13 hx hby at_162 rfl (olload Xr13 hx hby at_164 rfl (olload Xr13 hx hby at_166 rfl (str14 _ k))))))))))))))))) ?_
            have f55 : Exa Z Tr13.heap br5 zs2 := (f41.keep Kr13)
            obtain ⟨_, Tr15, Lr15, Xr15, hQr15, str15⟩ := ocallV Xr14 hx hZ zm2 zm2 hown (ww hw 27 rfl) (ww hw 28 rfl) (notFace_of_selects (args := #[]) (mvT hZ (ww hw 30 rfl))) (ww hw 30 rfl) (ww hw 29 rfl) (by decide) (ww hw 31 rfl) (ww hw 11 rfl) er14 f55 (rm4_24 l Z a0 hw [] br5 b1 b5 b3 b4 k1 Tr13.heap n0 Z_5 f47 f49 f44) (st := [(.ref br5)]) rfl 0 rfl (by decide) (pc := 185) (Ls := (lc31 i0 i1 i2 i3 1 w0 (own_inward i1) (own_inward i2) (own_inward i3) br5 b3 b4 1 b4 (own_inward i2) b5 b4)) hml rfl (lenOf pd_2 rfl) at_185 hby
            obtain ⟨rfl, Nr15q, er15⟩ := hQr15
            have N13 := Fr.app N12 Nr15q
            refine own_go (U' := Tr15.setTop (mkF m 198 (lc31 i0 i1 i2 i3 1 w0 (own_inward i1) (own_inward i2) (own_inward i3) br5 b3 b4 1 b4 (own_inward i2) b5 b4) [(.int 1)])) (fun t k => oifY (pc := 171) Xr14 hx hby at_171 179 (by decide) (by decide) (oaload Xr14 hx hby at_179 rfl rfl (oastore Xr14 hx hby at_181 (lc31 i0 i1 i2 i3 1 w0 (own_inward i1) (own_inward i2) (own_inward i3) br5 b3 b4 1 b4 (own_inward i2) b5 b4) rfl rfl (oaload Xr14 hx hby at_183 rfl rfl (str15 _ (oaload Xr15 hx hby at_188 rfl rfl (oacmp (pc := 190) Xr15 hx hby at_190 193 (same := true) rfl rfl (decide_eq_true rfl) (by decide) (oiconst Xr15 hx hby at_193 (ogoto (pc := 194) Xr15 hx hby at_194 198 (by decide) k))))))))) ?_
            obtain ⟨fs, hr, hrun, hended, hW, hsame⟩ := Xr15.leave (v := some (.int 1)) (fun h => by rw [Bd.returns] at h; cases h)
            refine own_out ⟨_, _, ?_, hrun, hended, _, _, rfl, ?_, ⟨_, rfl⟩, hW, hsame.mono (by decide) (by decide)⟩
            · exact retN Xr15 hx (t := .boolean) Bd.returns (by simp) (hb hby at_198) hr
            · exact ⟨rfl, N13⟩
    · have hc16 : ¬ ((own_inward i1) < (own_inward i2)) := hk2
      have hc3 : ¬ ((own_inward i2) = (-9223372036854775808 : Int64)) := (fun e => by have := congrArg Int64.toInt e; have := own_inward_b i2; have := (by decide : ((-9223372036854775808 : Int64)).toInt = -9223372036854775808); omega)
      have hc4 : ¬ ((own_inward i2) = (9223372036854775807 : Int64)) := (fun e => by have := congrArg Int64.toInt e; have := own_inward_b i2; have := (by decide : ((9223372036854775807 : Int64)).toInt = 9223372036854775807); omega)
      by_cases hk7 : (own_inward i1) = (own_inward i2)
      · have hc17 : (own_inward i1) = (own_inward i2) := hk7
        obtain ⟨_, Tr10, Lr10, Xr10, hQr10, str10⟩ := ocallV Xr9 hx hZ zm7 zm7 hown (ww hw 34 rfl) (ww hw 35 rfl) (notFace_of_selects (args := #[]) (mvT hZ (ww hw 37 rfl))) (ww hw 37 rfl) (ww hw 36 rfl) (by decide) (ww hw 38 rfl) (ww hw 11 rfl) er9 f28 (rm5_41 l Z a0 hw [] br5 (own_inward i2) w0 b2 (own_inward i1) k2 b1 b3 k1 Tr8.heap n0 Z_3 f19 f29 f28 f20 f22 f18 hc16 hc3 hc4 hc17 f21 f17 f24 f27 f23 g1 (Ne.symm ne2)) (st := [.null, (.long (own_inward i2)), (.ref br5)]) rfl 0 rfl (by decide) (pc := 96) (Ls := (lc24 i0 i1 i2 i3 1 w0 (own_inward i1) (own_inward i2) (own_inward i3) br5 b3)) hml rfl (lenOf pd_6 rfl) at_96 hby
        obtain ⟨rfl, Nr10q, Kr10, f30, f31, f32, f33, f34⟩ := hQr10
        have N8 := Fr.app N7 Nr10q
        have Z_4 : n0 ≤ Tr10.heap.size := Nat.le_trans Z_3 Kr10.1
        obtain ⟨_, Tr11, Lr11, Xr11, hQr11, str11⟩ := ocallS Xr10 hx hZ zm8 hown (ww hw 69 rfl) (ww hw 70 rfl) (by decide) (ww hw 71 rfl) (ww hw 5 rfl) rfl (rm10_29 l Z a0 hw [] (own_inward i2) (own_inward i1) Tr10.heap n0 Z_4 hc16) (st := [(.long (own_inward i1)), (.long (own_inward i2)), (.int 1)]) rfl 0 rfl (by decide) (pc := 107) (Ls := (lc25 i0 i1 i2 i3 1 w0 (own_inward i1) (own_inward i2) (own_inward i3) br5 b3 b3)) hml rfl (lenOf pd_7 rfl) at_107 hby
        obtain ⟨rfl, Nr11q, er11⟩ := hQr11
        have N9 := Fr.app N8 Nr11q
        refine own_go (U' := Tr11.setTop (mkF m 114 (lc27 i0 i1 i2 i3 1 w0 (own_inward i1) (own_inward i2) (own_inward i3) br5 b3 b3 0) [(.int 0)])) (fun t k => oifN X0 hx hby at_15 (by decide) (str1 _ (ogoto (pc := 21) Xr1 hx hby at_21 27 (by decide) (oastore Xr1 hx hby at_27 (lc2 i0 i1 i2 i3 1 w0) rfl rfl (olloadN Xr1 hx hby at_29 rfl (str2 _ (olstore Xr2 hx hby at_33 (lc4 i0 i1 i2 i3 1 w0 (own_inward i1)) rfl (olloadN Xr2 hx hby at_35 rfl (str3 _ (olstore Xr3 hx hby at_39 (lc5 i0 i1 i2 i3 1 w0 (own_inward i1) (own_inward i2)) rfl (olload Xr3 hx hby at_41 rfl (str4 _ (olstore Xr4 hx hby at_46 (lc6 i0 i1 i2 i3 1 w0 (own_inward i1) (own_inward i2) (own_inward i3)) rfl (str5 _ (odup Xr5 hx hby at_51 rfl (oaload Xr5 hx hby at_52 rfl rfl (str6 _ (oastore Xr6 hx hby at_57 (lc8 i0 i1 i2 i3 1 w0 (own_inward i1) (own_inward i2) (own_inward i3) br5) rfl rfl (oaload Xr6 hx hby at_59 rfl rfl (str7 _ (onlY (pc := 64) Xr7 hx hby at_64 69 (by decide) (oaload Xr7 hx hby at_69 rfl rfl (olload Xr7 hx hby at_71 rfl (onull Xr7 hx hby at_73 (str8 _ (oastore Xr8 hx hby at_77 (lc24 i0 i1 i2 i3 1 w0 (own_inward i1) (own_inward i2) (own_inward i3) br5 b3) rfl rfl (oaload Xr8 hx hby at_79 rfl rfl (str9 _ (oaload Xr9 hx hby at_84 rfl rfl (oacmp (pc := 86) Xr9 hx hby at_86 91 (same := true) rfl rfl (decide_eq_true rfl) (by decide) (oaload Xr9 hx hby at_91 rfl rfl (olload Xr9 hx hby at_93 rfl (onull Xr9 hx hby at_95 (str10 _ (oastore Xr10 hx hby at_99 (lc25 i0 i1 i2 i3 1 w0 (own_inward i1) (own_inward i2) (own_inward i3) br5 b3 b3) rfl rfl (oiload Xr10 hx hby at_101 rfl (olload Xr10 hx hby at_103 rfl (olload Xr10 hx hby at_105 rfl (str11 _ (oistore Xr11 hx hby at_110 (lc27 i0 i1 i2 i3 1 w0 (own_inward i1) (own_inward i2) (own_inward i3) br5 b3 b3 0) rfl (oiload Xr11 hx hby at_112 rfl k))))))))))))))))))))))))))))))))))))))))) ?_
        refine own_go (U' := Tr11.setTop (mkF m 128 (lc28 i0 i1 i2 i3 1 w0 (own_inward i1) (own_inward i2) (own_inward i3) br5 b3 b3 0 b3) [(.int 0)])) (fun t k => oifY (pc := 114) Xr11 hx hby at_114 122 (by decide) (by decide) (oaload Xr11 hx hby at_122 rfl rfl (oastore Xr11 hx hby at_124 (lc28 i0 i1 i2 i3 1 w0 (own_inward i1) (own_inward i2) (own_inward i3) br5 b3 b3 0 b3) rfl rfl (oiload Xr11 hx hby at_126 rfl k)))) ?_
        have f35 : Exa Z Tr10.heap br5 zs2 := (f28.keep Kr10)
        have f36 : Arv Z Tr10.heap b1 k1 (.object zs1) (16 : Int32) [(.ref b3)] .null := (f17.keep Kr10 (ninS (Ne.symm ne2) nin0))
        obtain ⟨_, Tr12, Lr12, Xr12, hQr12, str12⟩ := ocallV Xr11 hx hZ zm2 zm2 hown (ww hw 27 rfl) (ww hw 28 rfl) (notFace_of_selects (args := #[]) (mvT hZ (ww hw 30 rfl))) (ww hw 30 rfl) (ww hw 29 rfl) (by decide) (ww hw 31 rfl) (ww hw 11 rfl) er11 f35 (rm4_12 l Z a0 hw [] br5 b1 b3 k1 Tr10.heap n0 Z_4 f31 f33 f36) (st := [(.ref br5)]) rfl 0 rfl (by decide) (pc := 142) (Ls := (lc29 i0 i1 i2 i3 1 w0 (own_inward i1) (own_inward i2) (own_inward i3) br5 b3 b3 0 b3 (own_inward i1))) hml rfl (lenOf pd_2 rfl) at_142 hby
        obtain ⟨rfl, Nr12q, er12⟩ := hQr12
        have N10 := Fr.app N9 Nr12q
        have f37 : Sta Z Tr10.heap zs6 "BUY" zs4 (.ref w0) := (own_staK f29 Kr10 (allS (own_nsE ((Ar5.keep Kr6).keep Kr8)) all0))
        have f38 : Arv Z Tr10.heap b2 k2 .long (16 : Int32) [(.long (own_inward i1))] (.long (0 : Int64)) := (f18.keep Kr10 (ninS (Ne.symm ne3) nin0))
        by_cases hk8 : (own_inward i1) < (own_inward i3)
        · have hc10 : (own_inward i1) < (own_inward i3) := hk8
          have hc6 : ¬ ((own_inward i3) = (-9223372036854775808 : Int64)) := (fun e => by have := congrArg Int64.toInt e; have := own_inward_b i3; have := (by decide : ((-9223372036854775808 : Int64)).toInt = -9223372036854775808); omega)
          have hc7 : ¬ ((own_inward i3) = (9223372036854775807 : Int64)) := (fun e => by have := congrArg Int64.toInt e; have := own_inward_b i3; have := (by decide : ((9223372036854775807 : Int64)).toInt = 9223372036854775807); omega)
          obtain ⟨_, Tr13, Lr13, Xr13, hQr13, str13⟩ := ocallV Xr12 hx hZ zm7 zm7 hown (ww hw 34 rfl) (ww hw 35 rfl) (notFace_of_selects (args := #[]) (mvT hZ (ww hw 37 rfl))) (ww hw 37 rfl) (ww hw 36 rfl) (by decide) (ww hw 38 rfl) (ww hw 11 rfl) er12 f35 (rm5_42 l Z a0 hw [] br5 (own_inward i3) w0 b2 (own_inward i1) k2 b1 b3 k1 Tr10.heap n0 Z_4 f30 f37 f35 f31 f32 f38 hc10 hc6 hc7 f33 f36 g2 O1 ne2 (Ne.symm ne1) g3 ne3 f34 g1) (st := [.null, (.long (own_inward i3)), (.ref br5)]) rfl 0 rfl (by decide) (pc := 157) (Ls := (lc29 i0 i1 i2 i3 1 w0 (own_inward i1) (own_inward i2) (own_inward i3) br5 b3 b3 0 b3 (own_inward i1))) hml rfl (lenOf pd_6 rfl) at_157 hby
          obtain ⟨b4, rfl, Nr13q, Kr13, sz4, f39, f40, f41, f42, f43, f44, f45, f46, f47, f48, f49⟩ := hQr13
          have N11 := Fr.app N10 Nr13q
          have Z_5 : n0 ≤ Tr13.heap.size := Nat.le_trans Z_4 Kr13.1
          obtain ⟨_, Tr14, Lr14, Xr14, hQr14, str14⟩ := ocallS Xr13 hx hZ zm8 hown (ww hw 69 rfl) (ww hw 70 rfl) (by decide) (ww hw 71 rfl) (ww hw 5 rfl) rfl (rm10_18 l Z a0 hw [] (own_inward i3) (own_inward i1) Tr13.heap n0 Z_5 hc10) (st := [(.long (own_inward i1)), (.long (own_inward i3)), (.int 1)]) rfl 0 rfl (by decide) (pc := 168) (Ls := (lc30 i0 i1 i2 i3 1 w0 (own_inward i1) (own_inward i2) (own_inward i3) br5 b3 b3 0 b3 (own_inward i1) b4)) hml rfl (lenOf pd_7 rfl) at_168 hby
          obtain ⟨rfl, Nr14q, er14⟩ := hQr14
          have N12 := Fr.app N11 Nr14q
          refine own_go (U' := Tr14.setTop (mkF m 171 (lc30 i0 i1 i2 i3 1 w0 (own_inward i1) (own_inward i2) (own_inward i3) br5 b3 b3 0 b3 (own_inward i1) b4) [(.int 1)])) (fun t k => oifY (pc := 128) Xr11 hx hby at_128 136 (by decide) (by decide) (olload Xr11 hx hby at_136 rfl (olstore Xr11 hx hby at_138 (lc29 i0 i1 i2 i3 1 w0 (own_inward i1) (own_inward i2) (own_inward i3) br5 b3 b3 0 b3 (own_inward i1)) rfl (oaload Xr11 hx hby at_140 rfl rfl (str12 _ (oaload Xr12 hx hby at_145 rfl rfl (oacmp (pc := 147) Xr12 hx hby at_147 152 (same := true) rfl rfl (decide_eq_true rfl) (by decide) (oaload Xr12 hx hby at_152 rfl rfl (olload Xr12 hx hby at_154 rfl (onull Xr12 hx hby at_156 (str13 _ (oastore Xr13 hx hby at_160 (lc30 i0 i1 i2 i3 1 w0 (own_inward i1) (own_inward i2) (own_inward i3) br5 b3 b3 0 b3 (own_inward i1) b4) rfl rfl (oiload Xr13 hx hby at_162 rfl (olload Xr13 hx hby at_164 rfl (olload Xr13 hx hby at_166 rfl (str14 _ k)))))))))))))))) ?_
          have f50 : Exa Z Tr13.heap br5 zs2 := (f35.keep Kr13)
          obtain ⟨_, Tr15, Lr15, Xr15, hQr15, str15⟩ := ocallV Xr14 hx hZ zm2 zm2 hown (ww hw 27 rfl) (ww hw 28 rfl) (notFace_of_selects (args := #[]) (mvT hZ (ww hw 30 rfl))) (ww hw 30 rfl) (ww hw 29 rfl) (by decide) (ww hw 31 rfl) (ww hw 11 rfl) er14 f50 (rm4_19 l Z a0 hw [] br5 b1 b3 b4 k1 Tr13.heap n0 Z_5 f42 f44 f39) (st := [(.ref br5)]) rfl 0 rfl (by decide) (pc := 185) (Ls := (lc31 i0 i1 i2 i3 1 w0 (own_inward i1) (own_inward i2) (own_inward i3) br5 b3 b3 0 b3 (own_inward i1) b4 b4)) hml rfl (lenOf pd_2 rfl) at_185 hby
          obtain ⟨rfl, Nr15q, er15⟩ := hQr15
          have N13 := Fr.app N12 Nr15q
          refine own_go (U' := Tr15.setTop (mkF m 198 (lc31 i0 i1 i2 i3 1 w0 (own_inward i1) (own_inward i2) (own_inward i3) br5 b3 b3 0 b3 (own_inward i1) b4 b4) [(.int 1)])) (fun t k => oifN Xr14 hx hby at_171 (by decide) (oaload Xr14 hx hby at_174 rfl rfl (ogoto (pc := 176) Xr14 hx hby at_176 181 (by decide) (oastore Xr14 hx hby at_181 (lc31 i0 i1 i2 i3 1 w0 (own_inward i1) (own_inward i2) (own_inward i3) br5 b3 b3 0 b3 (own_inward i1) b4 b4) rfl rfl (oaload Xr14 hx hby at_183 rfl rfl (str15 _ (oaload Xr15 hx hby at_188 rfl rfl (oacmp (pc := 190) Xr15 hx hby at_190 193 (same := true) rfl rfl (decide_eq_true rfl) (by decide) (oiconst Xr15 hx hby at_193 (ogoto (pc := 194) Xr15 hx hby at_194 198 (by decide) k)))))))))) ?_
          obtain ⟨fs, hr, hrun, hended, hW, hsame⟩ := Xr15.leave (v := some (.int 1)) (fun h => by rw [Bd.returns] at h; cases h)
          refine own_out ⟨_, _, ?_, hrun, hended, _, _, rfl, ?_, ⟨_, rfl⟩, hW, hsame.mono (by decide) (by decide)⟩
          · exact retN Xr15 hx (t := .boolean) Bd.returns (by simp) (hb hby at_198) hr
          · exact ⟨rfl, N13⟩
        · have f39 : Exa Z Tr10.heap b3 zs1 := (f24.keep Kr10)
          by_cases hk9 : (own_inward i1) = (own_inward i3)
          · have ne4 : br5 ≠ b3 := Nat.ne_of_lt (Nat.lt_of_lt_of_le (Nat.lt_of_lt_of_le (f1.lt) Kr6.1) sz3)
            have f40 : Fld Z Tr10.heap b3 zs1 "first" zs11 .null := (f27.keep Kr10 (ninS (Ne.symm ne4) nin0))
            have hc13 : ¬ ((own_inward i1) < (own_inward i3)) := hk8
            have hc6 : ¬ ((own_inward i3) = (-9223372036854775808 : Int64)) := (fun e => by have := congrArg Int64.toInt e; have := own_inward_b i3; have := (by decide : ((-9223372036854775808 : Int64)).toInt = -9223372036854775808); omega)
            have hc7 : ¬ ((own_inward i3) = (9223372036854775807 : Int64)) := (fun e => by have := congrArg Int64.toInt e; have := own_inward_b i3; have := (by decide : ((9223372036854775807 : Int64)).toInt = 9223372036854775807); omega)
            have hc14 : (own_inward i1) = (own_inward i3) := hk9
            obtain ⟨_, Tr13, Lr13, Xr13, hQr13, str13⟩ := ocallV Xr12 hx hZ zm7 zm7 hown (ww hw 34 rfl) (ww hw 35 rfl) (notFace_of_selects (args := #[]) (mvT hZ (ww hw 37 rfl))) (ww hw 37 rfl) (ww hw 36 rfl) (by decide) (ww hw 38 rfl) (ww hw 11 rfl) er12 f35 (rm5_43 l Z a0 hw [] br5 (own_inward i3) w0 b2 (own_inward i1) k2 b1 b3 k1 Tr10.heap n0 Z_4 f30 f37 f35 f31 f32 f38 hc13 hc6 hc7 hc14 f33 f36 f39 f40 f34 g1 (Ne.symm ne2)) (st := [.null, (.long (own_inward i3)), (.ref br5)]) rfl 0 rfl (by decide) (pc := 157) (Ls := (lc29 i0 i1 i2 i3 1 w0 (own_inward i1) (own_inward i2) (own_inward i3) br5 b3 b3 0 b3 (own_inward i1))) hml rfl (lenOf pd_6 rfl) at_157 hby
            obtain ⟨rfl, Nr13q, Kr13, f41, f42, f43, f44, f45⟩ := hQr13
            have N11 := Fr.app N10 Nr13q
            have Z_5 : n0 ≤ Tr13.heap.size := Nat.le_trans Z_4 Kr13.1
            obtain ⟨_, Tr14, Lr14, Xr14, hQr14, str14⟩ := ocallS Xr13 hx hZ zm8 hown (ww hw 69 rfl) (ww hw 70 rfl) (by decide) (ww hw 71 rfl) (ww hw 5 rfl) rfl (rm10_29 l Z a0 hw [] (own_inward i3) (own_inward i1) Tr13.heap n0 Z_5 hc13) (st := [(.long (own_inward i1)), (.long (own_inward i3)), (.int 1)]) rfl 0 rfl (by decide) (pc := 168) (Ls := (lc30 i0 i1 i2 i3 1 w0 (own_inward i1) (own_inward i2) (own_inward i3) br5 b3 b3 0 b3 (own_inward i1) b3)) hml rfl (lenOf pd_7 rfl) at_168 hby
            obtain ⟨rfl, Nr14q, er14⟩ := hQr14
            have N12 := Fr.app N11 Nr14q
            refine own_go (U' := Tr14.setTop (mkF m 171 (lc30 i0 i1 i2 i3 1 w0 (own_inward i1) (own_inward i2) (own_inward i3) br5 b3 b3 0 b3 (own_inward i1) b3) [(.int 0)])) (fun t k => oifY (pc := 128) Xr11 hx hby at_128 136 (by decide) (by decide) (olload Xr11 hx hby at_136 rfl (olstore Xr11 hx hby at_138 (lc29 i0 i1 i2 i3 1 w0 (own_inward i1) (own_inward i2) (own_inward i3) br5 b3 b3 0 b3 (own_inward i1)) rfl (oaload Xr11 hx hby at_140 rfl rfl (str12 _ (oaload Xr12 hx hby at_145 rfl rfl (oacmp (pc := 147) Xr12 hx hby at_147 152 (same := true) rfl rfl (decide_eq_true rfl) (by decide) (oaload Xr12 hx hby at_152 rfl rfl (olload Xr12 hx hby at_154 rfl (onull Xr12 hx hby at_156 (str13 _ (oastore Xr13 hx hby at_160 (lc30 i0 i1 i2 i3 1 w0 (own_inward i1) (own_inward i2) (own_inward i3) br5 b3 b3 0 b3 (own_inward i1) b3) rfl rfl (oiload Xr13 hx hby at_162 rfl (olload Xr13 hx hby at_164 rfl (olload Xr13 hx hby at_166 rfl (str14 _ k)))))))))))))))) ?_
            have f46 : Exa Z Tr13.heap br5 zs2 := (f35.keep Kr13)
            have f47 : Arv Z Tr13.heap b1 k1 (.object zs1) (16 : Int32) [(.ref b3)] .null := (f36.keep Kr13 (ninS (Ne.symm ne2) nin0))
            obtain ⟨_, Tr15, Lr15, Xr15, hQr15, str15⟩ := ocallV Xr14 hx hZ zm2 zm2 hown (ww hw 27 rfl) (ww hw 28 rfl) (notFace_of_selects (args := #[]) (mvT hZ (ww hw 30 rfl))) (ww hw 30 rfl) (ww hw 29 rfl) (by decide) (ww hw 31 rfl) (ww hw 11 rfl) er14 f46 (rm4_12 l Z a0 hw [] br5 b1 b3 k1 Tr13.heap n0 Z_5 f42 f44 f47) (st := [(.ref br5)]) rfl 0 rfl (by decide) (pc := 185) (Ls := (lc31 i0 i1 i2 i3 1 w0 (own_inward i1) (own_inward i2) (own_inward i3) br5 b3 b3 0 b3 (own_inward i1) b3 b3)) hml rfl (lenOf pd_2 rfl) at_185 hby
            obtain ⟨rfl, Nr15q, er15⟩ := hQr15
            have N13 := Fr.app N12 Nr15q
            refine own_go (U' := Tr15.setTop (mkF m 198 (lc31 i0 i1 i2 i3 1 w0 (own_inward i1) (own_inward i2) (own_inward i3) br5 b3 b3 0 b3 (own_inward i1) b3 b3) [(.int 1)])) (fun t k => oifY (pc := 171) Xr14 hx hby at_171 179 (by decide) (by decide) (oaload Xr14 hx hby at_179 rfl rfl (oastore Xr14 hx hby at_181 (lc31 i0 i1 i2 i3 1 w0 (own_inward i1) (own_inward i2) (own_inward i3) br5 b3 b3 0 b3 (own_inward i1) b3 b3) rfl rfl (oaload Xr14 hx hby at_183 rfl rfl (str15 _ (oaload Xr15 hx hby at_188 rfl rfl (oacmp (pc := 190) Xr15 hx hby at_190 193 (same := true) rfl rfl (decide_eq_true rfl) (by decide) (oiconst Xr15 hx hby at_193 (ogoto (pc := 194) Xr15 hx hby at_194 198 (by decide) k))))))))) ?_
            obtain ⟨fs, hr, hrun, hended, hW, hsame⟩ := Xr15.leave (v := some (.int 1)) (fun h => by rw [Bd.returns] at h; cases h)
            refine own_out ⟨_, _, ?_, hrun, hended, _, _, rfl, ?_, ⟨_, rfl⟩, hW, hsame.mono (by decide) (by decide)⟩
            · exact retN Xr15 hx (t := .boolean) Bd.returns (by simp) (hb hby at_198) hr
            · exact ⟨rfl, N13⟩
          · have hc13 : ¬ ((own_inward i1) < (own_inward i3)) := hk8
            have hc6 : ¬ ((own_inward i3) = (-9223372036854775808 : Int64)) := (fun e => by have := congrArg Int64.toInt e; have := own_inward_b i3; have := (by decide : ((-9223372036854775808 : Int64)).toInt = -9223372036854775808); omega)
            have hc7 : ¬ ((own_inward i3) = (9223372036854775807 : Int64)) := (fun e => by have := congrArg Int64.toInt e; have := own_inward_b i3; have := (by decide : ((9223372036854775807 : Int64)).toInt = 9223372036854775807); omega)
            have hc15 : ¬ ((own_inward i1) = (own_inward i3)) := hk9
            obtain ⟨_, Tr13, Lr13, Xr13, hQr13, str13⟩ := ocallV Xr12 hx hZ zm7 zm7 hown (ww hw 34 rfl) (ww hw 35 rfl) (notFace_of_selects (args := #[]) (mvT hZ (ww hw 37 rfl))) (ww hw 37 rfl) (ww hw 36 rfl) (by decide) (ww hw 38 rfl) (ww hw 11 rfl) er12 f35 (rm5_46 l Z a0 hw [] br5 (own_inward i3) w0 b2 (own_inward i1) k2 b1 b3 k1 Tr10.heap n0 Z_4 f30 f37 f35 f31 f32 f38 hc13 hc6 hc7 hc15 f33 f36 g2 O1 f39 ne2 (Ne.symm ne1) g3 ne3 f34 g1) (st := [.null, (.long (own_inward i3)), (.ref br5)]) rfl 0 rfl (by decide) (pc := 157) (Ls := (lc29 i0 i1 i2 i3 1 w0 (own_inward i1) (own_inward i2) (own_inward i3) br5 b3 b3 0 b3 (own_inward i1))) hml rfl (lenOf pd_6 rfl) at_157 hby
            obtain ⟨b4, rfl, Nr13q, Kr13, sz4, f40, f41, f42, f43, f44, f45, f46, f47, f48, f49, f50⟩ := hQr13
            have N11 := Fr.app N10 Nr13q
            have Z_5 : n0 ≤ Tr13.heap.size := Nat.le_trans Z_4 Kr13.1
            obtain ⟨_, Tr14, Lr14, Xr14, hQr14, str14⟩ := ocallS Xr13 hx hZ zm8 hown (ww hw 69 rfl) (ww hw 70 rfl) (by decide) (ww hw 71 rfl) (ww hw 5 rfl) rfl (rm10_29 l Z a0 hw [] (own_inward i3) (own_inward i1) Tr13.heap n0 Z_5 hc13) (st := [(.long (own_inward i1)), (.long (own_inward i3)), (.int 1)]) rfl 0 rfl (by decide) (pc := 168) (Ls := (lc30 i0 i1 i2 i3 1 w0 (own_inward i1) (own_inward i2) (own_inward i3) br5 b3 b3 0 b3 (own_inward i1) b4)) hml rfl (lenOf pd_7 rfl) at_168 hby
            obtain ⟨rfl, Nr14q, er14⟩ := hQr14
            have N12 := Fr.app N11 Nr14q
            refine own_go (U' := Tr14.setTop (mkF m 171 (lc30 i0 i1 i2 i3 1 w0 (own_inward i1) (own_inward i2) (own_inward i3) br5 b3 b3 0 b3 (own_inward i1) b4) [(.int 0)])) (fun t k => oifY (pc := 128) Xr11 hx hby at_128 136 (by decide) (by decide) (olload Xr11 hx hby at_136 rfl (olstore Xr11 hx hby at_138 (lc29 i0 i1 i2 i3 1 w0 (own_inward i1) (own_inward i2) (own_inward i3) br5 b3 b3 0 b3 (own_inward i1)) rfl (oaload Xr11 hx hby at_140 rfl rfl (str12 _ (oaload Xr12 hx hby at_145 rfl rfl (oacmp (pc := 147) Xr12 hx hby at_147 152 (same := true) rfl rfl (decide_eq_true rfl) (by decide) (oaload Xr12 hx hby at_152 rfl rfl (olload Xr12 hx hby at_154 rfl (onull Xr12 hx hby at_156 (str13 _ (oastore Xr13 hx hby at_160 (lc30 i0 i1 i2 i3 1 w0 (own_inward i1) (own_inward i2) (own_inward i3) br5 b3 b3 0 b3 (own_inward i1) b4) rfl rfl (oiload Xr13 hx hby at_162 rfl (olload Xr13 hx hby at_164 rfl (olload Xr13 hx hby at_166 rfl (str14 _ k)))))))))))))))) ?_
            have f51 : Exa Z Tr13.heap br5 zs2 := (f35.keep Kr13)
            obtain ⟨_, Tr15, Lr15, Xr15, hQr15, str15⟩ := ocallV Xr14 hx hZ zm2 zm2 hown (ww hw 27 rfl) (ww hw 28 rfl) (notFace_of_selects (args := #[]) (mvT hZ (ww hw 30 rfl))) (ww hw 30 rfl) (ww hw 29 rfl) (by decide) (ww hw 31 rfl) (ww hw 11 rfl) er14 f51 (rm4_19 l Z a0 hw [] br5 b1 b4 b3 k1 Tr13.heap n0 Z_5 f43 f45 f40) (st := [(.ref br5)]) rfl 0 rfl (by decide) (pc := 185) (Ls := (lc31 i0 i1 i2 i3 1 w0 (own_inward i1) (own_inward i2) (own_inward i3) br5 b3 b3 0 b3 (own_inward i1) b4 b3)) hml rfl (lenOf pd_2 rfl) at_185 hby
            obtain ⟨rfl, Nr15q, er15⟩ := hQr15
            have N13 := Fr.app N12 Nr15q
            refine own_go (U' := Tr15.setTop (mkF m 198 (lc31 i0 i1 i2 i3 1 w0 (own_inward i1) (own_inward i2) (own_inward i3) br5 b3 b3 0 b3 (own_inward i1) b4 b3) [(.int 1)])) (fun t k => oifY (pc := 171) Xr14 hx hby at_171 179 (by decide) (by decide) (oaload Xr14 hx hby at_179 rfl rfl (oastore Xr14 hx hby at_181 (lc31 i0 i1 i2 i3 1 w0 (own_inward i1) (own_inward i2) (own_inward i3) br5 b3 b3 0 b3 (own_inward i1) b4 b3) rfl rfl (oaload Xr14 hx hby at_183 rfl rfl (str15 _ (oaload Xr15 hx hby at_188 rfl rfl (oacmp (pc := 190) Xr15 hx hby at_190 193 (same := true) rfl rfl (decide_eq_true rfl) (by decide) (oiconst Xr15 hx hby at_193 (ogoto (pc := 194) Xr15 hx hby at_194 198 (by decide) k))))))))) ?_
            obtain ⟨fs, hr, hrun, hended, hW, hsame⟩ := Xr15.leave (v := some (.int 1)) (fun h => by rw [Bd.returns] at h; cases h)
            refine own_out ⟨_, _, ?_, hrun, hended, _, _, rfl, ?_, ⟨_, rfl⟩, hW, hsame.mono (by decide) (by decide)⟩
            · exact retN Xr15 hx (t := .boolean) Bd.returns (by simp) (hb hby at_198) hr
            · exact ⟨rfl, N13⟩
      · have hc18 : ¬ ((own_inward i1) = (own_inward i2)) := hk7
        obtain ⟨_, Tr10, Lr10, Xr10, hQr10, str10⟩ := ocallV Xr9 hx hZ zm7 zm7 hown (ww hw 34 rfl) (ww hw 35 rfl) (notFace_of_selects (args := #[]) (mvT hZ (ww hw 37 rfl))) (ww hw 37 rfl) (ww hw 36 rfl) (by decide) (ww hw 38 rfl) (ww hw 11 rfl) er9 f28 (rm5_47 l Z a0 hw [] br5 (own_inward i2) w0 b2 (own_inward i1) k2 b1 b3 k1 Tr8.heap n0 Z_3 f19 f29 f28 f20 f22 f18 hc16 hc3 hc4 hc18 f21 f17 g2 O1 f24 ne2 (Ne.symm ne1) g3 ne3 f23 g1) (st := [.null, (.long (own_inward i2)), (.ref br5)]) rfl 0 rfl (by decide) (pc := 96) (Ls := (lc24 i0 i1 i2 i3 1 w0 (own_inward i1) (own_inward i2) (own_inward i3) br5 b3)) hml rfl (lenOf pd_6 rfl) at_96 hby
        obtain ⟨b4, rfl, Nr10q, Kr10, sz4, f30, f31, f32, f33, f34, f35, f36, f37, f38, f39, f40⟩ := hQr10
        have N8 := Fr.app N7 Nr10q
        have Z_4 : n0 ≤ Tr10.heap.size := Nat.le_trans Z_3 Kr10.1
        obtain ⟨_, Tr11, Lr11, Xr11, hQr11, str11⟩ := ocallS Xr10 hx hZ zm8 hown (ww hw 69 rfl) (ww hw 70 rfl) (by decide) (ww hw 71 rfl) (ww hw 5 rfl) rfl (rm10_29 l Z a0 hw [] (own_inward i2) (own_inward i1) Tr10.heap n0 Z_4 hc16) (st := [(.long (own_inward i1)), (.long (own_inward i2)), (.int 1)]) rfl 0 rfl (by decide) (pc := 107) (Ls := (lc25 i0 i1 i2 i3 1 w0 (own_inward i1) (own_inward i2) (own_inward i3) br5 b3 b4)) hml rfl (lenOf pd_7 rfl) at_107 hby
        obtain ⟨rfl, Nr11q, er11⟩ := hQr11
        have N9 := Fr.app N8 Nr11q
        refine own_go (U' := Tr11.setTop (mkF m 114 (lc27 i0 i1 i2 i3 1 w0 (own_inward i1) (own_inward i2) (own_inward i3) br5 b3 b4 0) [(.int 0)])) (fun t k => oifN X0 hx hby at_15 (by decide) (str1 _ (ogoto (pc := 21) Xr1 hx hby at_21 27 (by decide) (oastore Xr1 hx hby at_27 (lc2 i0 i1 i2 i3 1 w0) rfl rfl (olloadN Xr1 hx hby at_29 rfl (str2 _ (olstore Xr2 hx hby at_33 (lc4 i0 i1 i2 i3 1 w0 (own_inward i1)) rfl (olloadN Xr2 hx hby at_35 rfl (str3 _ (olstore Xr3 hx hby at_39 (lc5 i0 i1 i2 i3 1 w0 (own_inward i1) (own_inward i2)) rfl (olload Xr3 hx hby at_41 rfl (str4 _ (olstore Xr4 hx hby at_46 (lc6 i0 i1 i2 i3 1 w0 (own_inward i1) (own_inward i2) (own_inward i3)) rfl (str5 _ (odup Xr5 hx hby at_51 rfl (oaload Xr5 hx hby at_52 rfl rfl (str6 _ (oastore Xr6 hx hby at_57 (lc8 i0 i1 i2 i3 1 w0 (own_inward i1) (own_inward i2) (own_inward i3) br5) rfl rfl (oaload Xr6 hx hby at_59 rfl rfl (str7 _ (onlY (pc := 64) Xr7 hx hby at_64 69 (by decide) (oaload Xr7 hx hby at_69 rfl rfl (olload Xr7 hx hby at_71 rfl (onull Xr7 hx hby at_73 (str8 _ (oastore Xr8 hx hby at_77 (lc24 i0 i1 i2 i3 1 w0 (own_inward i1) (own_inward i2) (own_inward i3) br5 b3) rfl rfl (oaload Xr8 hx hby at_79 rfl rfl (str9 _ (oaload Xr9 hx hby at_84 rfl rfl (oacmp (pc := 86) Xr9 hx hby at_86 91 (same := true) rfl rfl (decide_eq_true rfl) (by decide) (oaload Xr9 hx hby at_91 rfl rfl (olload Xr9 hx hby at_93 rfl (onull Xr9 hx hby at_95 (str10 _ (oastore Xr10 hx hby at_99 (lc25 i0 i1 i2 i3 1 w0 (own_inward i1) (own_inward i2) (own_inward i3) br5 b3 b4) rfl rfl (oiload Xr10 hx hby at_101 rfl (olload Xr10 hx hby at_103 rfl (olload Xr10 hx hby at_105 rfl (str11 _ (oistore Xr11 hx hby at_110 (lc27 i0 i1 i2 i3 1 w0 (own_inward i1) (own_inward i2) (own_inward i3) br5 b3 b4 0) rfl (oiload Xr11 hx hby at_112 rfl k))))))))))))))))))))))))))))))))))))))))) ?_
        refine own_go (U' := Tr11.setTop (mkF m 128 (lc28 i0 i1 i2 i3 1 w0 (own_inward i1) (own_inward i2) (own_inward i3) br5 b3 b4 0 b3) [(.int 0)])) (fun t k => oifY (pc := 114) Xr11 hx hby at_114 122 (by decide) (by decide) (oaload Xr11 hx hby at_122 rfl rfl (oastore Xr11 hx hby at_124 (lc28 i0 i1 i2 i3 1 w0 (own_inward i1) (own_inward i2) (own_inward i3) br5 b3 b4 0 b3) rfl rfl (oiload Xr11 hx hby at_126 rfl k)))) ?_
        have f41 : Exa Z Tr10.heap br5 zs2 := (f28.keep Kr10)
        obtain ⟨_, Tr12, Lr12, Xr12, hQr12, str12⟩ := ocallV Xr11 hx hZ zm2 zm2 hown (ww hw 27 rfl) (ww hw 28 rfl) (notFace_of_selects (args := #[]) (mvT hZ (ww hw 30 rfl))) (ww hw 30 rfl) (ww hw 29 rfl) (by decide) (ww hw 31 rfl) (ww hw 11 rfl) er11 f41 (rm4_19 l Z a0 hw [] br5 b1 b4 b3 k1 Tr10.heap n0 Z_4 f33 f35 f30) (st := [(.ref br5)]) rfl 0 rfl (by decide) (pc := 142) (Ls := (lc29 i0 i1 i2 i3 1 w0 (own_inward i1) (own_inward i2) (own_inward i3) br5 b3 b4 0 b3 (own_inward i1))) hml rfl (lenOf pd_2 rfl) at_142 hby
        obtain ⟨rfl, Nr12q, er12⟩ := hQr12
        have N10 := Fr.app N9 Nr12q
        have f42 : Sta Z Tr10.heap zs6 "BUY" zs4 (.ref w0) := (own_staK f29 Kr10 (allS (own_nsE (f11.keep Kr8)) (allS (own_nsE (f13.keep Kr8)) (allS (own_nsE ((Ar5.keep Kr6).keep Kr8)) all0))))
        by_cases hk10 : (own_inward i1) < (own_inward i3)
        · have hc10 : (own_inward i1) < (own_inward i3) := hk10
          have hc6 : ¬ ((own_inward i3) = (-9223372036854775808 : Int64)) := (fun e => by have := congrArg Int64.toInt e; have := own_inward_b i3; have := (by decide : ((-9223372036854775808 : Int64)).toInt = -9223372036854775808); omega)
          have hc7 : ¬ ((own_inward i3) = (9223372036854775807 : Int64)) := (fun e => by have := congrArg Int64.toInt e; have := own_inward_b i3; have := (by decide : ((9223372036854775807 : Int64)).toInt = 9223372036854775807); omega)
          obtain ⟨_, Tr13, Lr13, Xr13, hQr13, str13⟩ := ocallV Xr12 hx hZ zm7 zm7 hown (ww hw 34 rfl) (ww hw 35 rfl) (notFace_of_selects (args := #[]) (mvT hZ (ww hw 37 rfl))) (ww hw 37 rfl) (ww hw 36 rfl) (by decide) (ww hw 38 rfl) (ww hw 11 rfl) er12 f41 (rm5_23 l Z a0 hw [] br5 (own_inward i3) w0 b2 (own_inward i2) (own_inward i1) k2 b1 b4 b3 k1 Tr10.heap n0 Z_4 f32 f42 f41 f33 f34 f31 hc10 hc6 hc7 f35 f30 g2 O1 ne2 (Ne.symm ne1) g3 ne3 f36 g1) (st := [.null, (.long (own_inward i3)), (.ref br5)]) rfl 0 rfl (by decide) (pc := 157) (Ls := (lc29 i0 i1 i2 i3 1 w0 (own_inward i1) (own_inward i2) (own_inward i3) br5 b3 b4 0 b3 (own_inward i1))) hml rfl (lenOf pd_6 rfl) at_157 hby
          obtain ⟨b5, rfl, Nr13q, Kr13, sz5, f43, f44, f45, f46, f47, f48, f49, f50, f51, f52, f53⟩ := hQr13
          have N11 := Fr.app N10 Nr13q
          have Z_5 : n0 ≤ Tr13.heap.size := Nat.le_trans Z_4 Kr13.1
          obtain ⟨_, Tr14, Lr14, Xr14, hQr14, str14⟩ := ocallS Xr13 hx hZ zm8 hown (ww hw 69 rfl) (ww hw 70 rfl) (by decide) (ww hw 71 rfl) (ww hw 5 rfl) rfl (rm10_18 l Z a0 hw [] (own_inward i3) (own_inward i1) Tr13.heap n0 Z_5 hc10) (st := [(.long (own_inward i1)), (.long (own_inward i3)), (.int 1)]) rfl 0 rfl (by decide) (pc := 168) (Ls := (lc30 i0 i1 i2 i3 1 w0 (own_inward i1) (own_inward i2) (own_inward i3) br5 b3 b4 0 b3 (own_inward i1) b5)) hml rfl (lenOf pd_7 rfl) at_168 hby
          obtain ⟨rfl, Nr14q, er14⟩ := hQr14
          have N12 := Fr.app N11 Nr14q
          refine own_go (U' := Tr14.setTop (mkF m 171 (lc30 i0 i1 i2 i3 1 w0 (own_inward i1) (own_inward i2) (own_inward i3) br5 b3 b4 0 b3 (own_inward i1) b5) [(.int 1)])) (fun t k => oifY (pc := 128) Xr11 hx hby at_128 136 (by decide) (by decide) (olload Xr11 hx hby at_136 rfl (olstore Xr11 hx hby at_138 (lc29 i0 i1 i2 i3 1 w0 (own_inward i1) (own_inward i2) (own_inward i3) br5 b3 b4 0 b3 (own_inward i1)) rfl (oaload Xr11 hx hby at_140 rfl rfl (str12 _ (oaload Xr12 hx hby at_145 rfl rfl (oacmp (pc := 147) Xr12 hx hby at_147 152 (same := true) rfl rfl (decide_eq_true rfl) (by decide) (oaload Xr12 hx hby at_152 rfl rfl (olload Xr12 hx hby at_154 rfl (onull Xr12 hx hby at_156 (str13 _ (oastore Xr13 hx hby at_160 (lc30 i0 i1 i2 i3 1 w0 (own_inward i1) (own_inward i2) (own_inward i3) br5 b3 b4 0 b3 (own_inward i1) b5) rfl rfl (oiload Xr13 hx hby at_162 rfl (olload Xr13 hx hby at_164 rfl (olload Xr13 hx hby at_166 rfl (str14 _ k)))))))))))))))) ?_
          have f54 : Exa Z Tr13.heap br5 zs2 := (f41.keep Kr13)
          obtain ⟨_, Tr15, Lr15, Xr15, hQr15, str15⟩ := ocallV Xr14 hx hZ zm2 zm2 hown (ww hw 27 rfl) (ww hw 28 rfl) (notFace_of_selects (args := #[]) (mvT hZ (ww hw 30 rfl))) (ww hw 30 rfl) (ww hw 29 rfl) (by decide) (ww hw 31 rfl) (ww hw 11 rfl) er14 f54 (rm4_24 l Z a0 hw [] br5 b1 b4 b3 b5 k1 Tr13.heap n0 Z_5 f46 f48 f43) (st := [(.ref br5)]) rfl 0 rfl (by decide) (pc := 185) (Ls := (lc31 i0 i1 i2 i3 1 w0 (own_inward i1) (own_inward i2) (own_inward i3) br5 b3 b4 0 b3 (own_inward i1) b5 b5)) hml rfl (lenOf pd_2 rfl) at_185 hby
          obtain ⟨rfl, Nr15q, er15⟩ := hQr15
          have N13 := Fr.app N12 Nr15q
          refine own_go (U' := Tr15.setTop (mkF m 198 (lc31 i0 i1 i2 i3 1 w0 (own_inward i1) (own_inward i2) (own_inward i3) br5 b3 b4 0 b3 (own_inward i1) b5 b5) [(.int 1)])) (fun t k => oifN Xr14 hx hby at_171 (by decide) (oaload Xr14 hx hby at_174 rfl rfl (ogoto (pc := 176) Xr14 hx hby at_176 181 (by decide) (oastore Xr14 hx hby at_181 (lc31 i0 i1 i2 i3 1 w0 (own_inward i1) (own_inward i2) (own_inward i3) br5 b3 b4 0 b3 (own_inward i1) b5 b5) rfl rfl (oaload Xr14 hx hby at_183 rfl rfl (str15 _ (oaload Xr15 hx hby at_188 rfl rfl (oacmp (pc := 190) Xr15 hx hby at_190 193 (same := true) rfl rfl (decide_eq_true rfl) (by decide) (oiconst Xr15 hx hby at_193 (ogoto (pc := 194) Xr15 hx hby at_194 198 (by decide) k)))))))))) ?_
          obtain ⟨fs, hr, hrun, hended, hW, hsame⟩ := Xr15.leave (v := some (.int 1)) (fun h => by rw [Bd.returns] at h; cases h)
          refine own_out ⟨_, _, ?_, hrun, hended, _, _, rfl, ?_, ⟨_, rfl⟩, hW, hsame.mono (by decide) (by decide)⟩
          · exact retN Xr15 hx (t := .boolean) Bd.returns (by simp) (hb hby at_198) hr
          · exact ⟨rfl, N13⟩
        · by_cases hk11 : (own_inward i2) < (own_inward i3)
          · have f43 : Exa Z Tr10.heap b3 zs1 := (f24.keep Kr10)
            by_cases hk12 : (own_inward i1) = (own_inward i3)
            · have ne4 : br5 ≠ b3 := Nat.ne_of_lt (Nat.lt_of_lt_of_le (Nat.lt_of_lt_of_le (f1.lt) Kr6.1) sz3)
              have ne5 : b2 ≠ b3 := Nat.ne_of_lt (Nat.lt_of_lt_of_le (f13.lt) sz3)
              have ne6 : b1 ≠ b3 := Nat.ne_of_lt (Nat.lt_of_lt_of_le (f11.lt) sz3)
              have f44 : Fld Z Tr10.heap b3 zs1 "first" zs11 .null := (f27.keep Kr10 (ninS (Ne.symm ne6) (ninS (Ne.symm ne5) (ninS (Ne.symm ne4) nin0))))
              have hc13 : ¬ ((own_inward i1) < (own_inward i3)) := hk10
              have hc8 : (own_inward i2) < (own_inward i3) := hk11
              have hc6 : ¬ ((own_inward i3) = (-9223372036854775808 : Int64)) := (fun e => by have := congrArg Int64.toInt e; have := own_inward_b i3; have := (by decide : ((-9223372036854775808 : Int64)).toInt = -9223372036854775808); omega)
              have hc7 : ¬ ((own_inward i3) = (9223372036854775807 : Int64)) := (fun e => by have := congrArg Int64.toInt e; have := own_inward_b i3; have := (by decide : ((9223372036854775807 : Int64)).toInt = 9223372036854775807); omega)
              have hc14 : (own_inward i1) = (own_inward i3) := hk12
              obtain ⟨_, Tr13, Lr13, Xr13, hQr13, str13⟩ := ocallV Xr12 hx hZ zm7 zm7 hown (ww hw 34 rfl) (ww hw 35 rfl) (notFace_of_selects (args := #[]) (mvT hZ (ww hw 37 rfl))) (ww hw 37 rfl) (ww hw 36 rfl) (by decide) (ww hw 38 rfl) (ww hw 11 rfl) er12 f41 (rm5_28 l Z a0 hw [] br5 (own_inward i3) w0 b2 (own_inward i2) (own_inward i1) k2 b1 b4 b3 k1 Tr10.heap n0 Z_4 f32 f42 f41 f33 f34 f31 hc13 hc8 hc6 hc7 hc14 f35 f30 f43 f44 f36 g1 (Ne.symm ne2)) (st := [.null, (.long (own_inward i3)), (.ref br5)]) rfl 0 rfl (by decide) (pc := 157) (Ls := (lc29 i0 i1 i2 i3 1 w0 (own_inward i1) (own_inward i2) (own_inward i3) br5 b3 b4 0 b3 (own_inward i1))) hml rfl (lenOf pd_6 rfl) at_157 hby
              obtain ⟨rfl, Nr13q, Kr13, f45, f46, f47, f48, f49⟩ := hQr13
              have N11 := Fr.app N10 Nr13q
              have Z_5 : n0 ≤ Tr13.heap.size := Nat.le_trans Z_4 Kr13.1
              obtain ⟨_, Tr14, Lr14, Xr14, hQr14, str14⟩ := ocallS Xr13 hx hZ zm8 hown (ww hw 69 rfl) (ww hw 70 rfl) (by decide) (ww hw 71 rfl) (ww hw 5 rfl) rfl (rm10_29 l Z a0 hw [] (own_inward i3) (own_inward i1) Tr13.heap n0 Z_5 hc13) (st := [(.long (own_inward i1)), (.long (own_inward i3)), (.int 1)]) rfl 0 rfl (by decide) (pc := 168) (Ls := (lc30 i0 i1 i2 i3 1 w0 (own_inward i1) (own_inward i2) (own_inward i3) br5 b3 b4 0 b3 (own_inward i1) b3)) hml rfl (lenOf pd_7 rfl) at_168 hby
              obtain ⟨rfl, Nr14q, er14⟩ := hQr14
              have N12 := Fr.app N11 Nr14q
              refine own_go (U' := Tr14.setTop (mkF m 171 (lc30 i0 i1 i2 i3 1 w0 (own_inward i1) (own_inward i2) (own_inward i3) br5 b3 b4 0 b3 (own_inward i1) b3) [(.int 0)])) (fun t k => oifY (pc := 128) Xr11 hx hby at_128 136 (by decide) (by decide) (olload Xr11 hx hby at_136 rfl (olstore Xr11 hx hby at_138 (lc29 i0 i1 i2 i3 1 w0 (own_inward i1) (own_inward i2) (own_inward i3) br5 b3 b4 0 b3 (own_inward i1)) rfl (oaload Xr11 hx hby at_140 rfl rfl (str12 _ (oaload Xr12 hx hby at_145 rfl rfl (oacmp (pc := 147) Xr12 hx hby at_147 152 (same := true) rfl rfl (decide_eq_true rfl) (by decide) (oaload Xr12 hx hby at_152 rfl rfl (olload Xr12 hx hby at_154 rfl (onull Xr12 hx hby at_156 (str13 _ (oastore Xr13 hx hby at_160 (lc30 i0 i1 i2 i3 1 w0 (own_inward i1) (own_inward i2) (own_inward i3) br5 b3 b4 0 b3 (own_inward i1) b3) rfl rfl (oiload Xr13 hx hby at_162 rfl (olload Xr13 hx hby at_164 rfl (olload Xr13 hx hby at_166 rfl (str14 _ k)))))))))))))))) ?_
              have f50 : Exa Z Tr13.heap br5 zs2 := (f41.keep Kr13)
              have f51 : Arv Z Tr13.heap b1 k1 (.object zs1) (16 : Int32) [(.ref b4), (.ref b3)] .null := (f30.keep Kr13 (ninS (Ne.symm ne2) nin0))
              obtain ⟨_, Tr15, Lr15, Xr15, hQr15, str15⟩ := ocallV Xr14 hx hZ zm2 zm2 hown (ww hw 27 rfl) (ww hw 28 rfl) (notFace_of_selects (args := #[]) (mvT hZ (ww hw 30 rfl))) (ww hw 30 rfl) (ww hw 29 rfl) (by decide) (ww hw 31 rfl) (ww hw 11 rfl) er14 f50 (rm4_19 l Z a0 hw [] br5 b1 b4 b3 k1 Tr13.heap n0 Z_5 f46 f48 f51) (st := [(.ref br5)]) rfl 0 rfl (by decide) (pc := 185) (Ls := (lc31 i0 i1 i2 i3 1 w0 (own_inward i1) (own_inward i2) (own_inward i3) br5 b3 b4 0 b3 (own_inward i1) b3 b3)) hml rfl (lenOf pd_2 rfl) at_185 hby
              obtain ⟨rfl, Nr15q, er15⟩ := hQr15
              have N13 := Fr.app N12 Nr15q
              refine own_go (U' := Tr15.setTop (mkF m 198 (lc31 i0 i1 i2 i3 1 w0 (own_inward i1) (own_inward i2) (own_inward i3) br5 b3 b4 0 b3 (own_inward i1) b3 b3) [(.int 1)])) (fun t k => oifY (pc := 171) Xr14 hx hby at_171 179 (by decide) (by decide) (oaload Xr14 hx hby at_179 rfl rfl (oastore Xr14 hx hby at_181 (lc31 i0 i1 i2 i3 1 w0 (own_inward i1) (own_inward i2) (own_inward i3) br5 b3 b4 0 b3 (own_inward i1) b3 b3) rfl rfl (oaload Xr14 hx hby at_183 rfl rfl (str15 _ (oaload Xr15 hx hby at_188 rfl rfl (oacmp (pc := 190) Xr15 hx hby at_190 193 (same := true) rfl rfl (decide_eq_true rfl) (by decide) (oiconst Xr15 hx hby at_193 (ogoto (pc := 194) Xr15 hx hby at_194 198 (by decide) k))))))))) ?_
              obtain ⟨fs, hr, hrun, hended, hW, hsame⟩ := Xr15.leave (v := some (.int 1)) (fun h => by rw [Bd.returns] at h; cases h)
              refine own_out ⟨_, _, ?_, hrun, hended, _, _, rfl, ?_, ⟨_, rfl⟩, hW, hsame.mono (by decide) (by decide)⟩
              · exact retN Xr15 hx (t := .boolean) Bd.returns (by simp) (hb hby at_198) hr
              · exact ⟨rfl, N13⟩
            · have hc13 : ¬ ((own_inward i1) < (own_inward i3)) := hk10
              have hc8 : (own_inward i2) < (own_inward i3) := hk11
              have hc6 : ¬ ((own_inward i3) = (-9223372036854775808 : Int64)) := (fun e => by have := congrArg Int64.toInt e; have := own_inward_b i3; have := (by decide : ((-9223372036854775808 : Int64)).toInt = -9223372036854775808); omega)
              have hc7 : ¬ ((own_inward i3) = (9223372036854775807 : Int64)) := (fun e => by have := congrArg Int64.toInt e; have := own_inward_b i3; have := (by decide : ((9223372036854775807 : Int64)).toInt = 9223372036854775807); omega)
              have hc15 : ¬ ((own_inward i1) = (own_inward i3)) := hk12
              obtain ⟨_, Tr13, Lr13, Xr13, hQr13, str13⟩ := ocallV Xr12 hx hZ zm7 zm7 hown (ww hw 34 rfl) (ww hw 35 rfl) (notFace_of_selects (args := #[]) (mvT hZ (ww hw 37 rfl))) (ww hw 37 rfl) (ww hw 36 rfl) (by decide) (ww hw 38 rfl) (ww hw 11 rfl) er12 f41 (rm5_32 l Z a0 hw [] br5 (own_inward i3) w0 b2 (own_inward i2) (own_inward i1) k2 b1 b4 b3 k1 Tr10.heap n0 Z_4 f32 f42 f41 f33 f34 f31 hc13 hc8 hc6 hc7 hc15 f35 f30 g2 O1 f43 ne2 (Ne.symm ne1) g3 ne3 f36 g1) (st := [.null, (.long (own_inward i3)), (.ref br5)]) rfl 0 rfl (by decide) (pc := 157) (Ls := (lc29 i0 i1 i2 i3 1 w0 (own_inward i1) (own_inward i2) (own_inward i3) br5 b3 b4 0 b3 (own_inward i1))) hml rfl (lenOf pd_6 rfl) at_157 hby
              obtain ⟨b5, rfl, Nr13q, Kr13, sz5, f44, f45, f46, f47, f48, f49, f50, f51, f52, f53, f54⟩ := hQr13
              have N11 := Fr.app N10 Nr13q
              have Z_5 : n0 ≤ Tr13.heap.size := Nat.le_trans Z_4 Kr13.1
              obtain ⟨_, Tr14, Lr14, Xr14, hQr14, str14⟩ := ocallS Xr13 hx hZ zm8 hown (ww hw 69 rfl) (ww hw 70 rfl) (by decide) (ww hw 71 rfl) (ww hw 5 rfl) rfl (rm10_29 l Z a0 hw [] (own_inward i3) (own_inward i1) Tr13.heap n0 Z_5 hc13) (st := [(.long (own_inward i1)), (.long (own_inward i3)), (.int 1)]) rfl 0 rfl (by decide) (pc := 168) (Ls := (lc30 i0 i1 i2 i3 1 w0 (own_inward i1) (own_inward i2) (own_inward i3) br5 b3 b4 0 b3 (own_inward i1) b5)) hml rfl (lenOf pd_7 rfl) at_168 hby
              obtain ⟨rfl, Nr14q, er14⟩ := hQr14
              have N12 := Fr.app N11 Nr14q
              refine own_go (U' := Tr14.setTop (mkF m 171 (lc30 i0 i1 i2 i3 1 w0 (own_inward i1) (own_inward i2) (own_inward i3) br5 b3 b4 0 b3 (own_inward i1) b5) [(.int 0)])) (fun t k => oifY (pc := 128) Xr11 hx hby at_128 136 (by decide) (by decide) (olload Xr11 hx hby at_136 rfl (olstore Xr11 hx hby at_138 (lc29 i0 i1 i2 i3 1 w0 (own_inward i1) (own_inward i2) (own_inward i3) br5 b3 b4 0 b3 (own_inward i1)) rfl (oaload Xr11 hx hby at_140 rfl rfl (str12 _ (oaload Xr12 hx hby at_145 rfl rfl (oacmp (pc := 147) Xr12 hx hby at_147 152 (same := true) rfl rfl (decide_eq_true rfl) (by decide) (oaload Xr12 hx hby at_152 rfl rfl (olload Xr12 hx hby at_154 rfl (onull Xr12 hx hby at_156 (str13 _ (oastore Xr13 hx hby at_160 (lc30 i0 i1 i2 i3 1 w0 (own_inward i1) (own_inward i2) (own_inward i3) br5 b3 b4 0 b3 (own_inward i1) b5) rfl rfl (oiload Xr13 hx hby at_162 rfl (olload Xr13 hx hby at_164 rfl (olload Xr13 hx hby at_166 rfl (str14 _ k)))))))))))))))) ?_
              have f55 : Exa Z Tr13.heap br5 zs2 := (f41.keep Kr13)
              obtain ⟨_, Tr15, Lr15, Xr15, hQr15, str15⟩ := ocallV Xr14 hx hZ zm2 zm2 hown (ww hw 27 rfl) (ww hw 28 rfl) (notFace_of_selects (args := #[]) (mvT hZ (ww hw 30 rfl))) (ww hw 30 rfl) (ww hw 29 rfl) (by decide) (ww hw 31 rfl) (ww hw 11 rfl) er14 f55 (rm4_24 l Z a0 hw [] br5 b1 b4 b5 b3 k1 Tr13.heap n0 Z_5 f47 f49 f44) (st := [(.ref br5)]) rfl 0 rfl (by decide) (pc := 185) (Ls := (lc31 i0 i1 i2 i3 1 w0 (own_inward i1) (own_inward i2) (own_inward i3) br5 b3 b4 0 b3 (own_inward i1) b5 b3)) hml rfl (lenOf pd_2 rfl) at_185 hby
              obtain ⟨rfl, Nr15q, er15⟩ := hQr15
              have N13 := Fr.app N12 Nr15q
              refine own_go (U' := Tr15.setTop (mkF m 198 (lc31 i0 i1 i2 i3 1 w0 (own_inward i1) (own_inward i2) (own_inward i3) br5 b3 b4 0 b3 (own_inward i1) b5 b3) [(.int 1)])) (fun t k => oifY (pc := 171) Xr14 hx hby at_171 179 (by decide) (by decide) (oaload Xr14 hx hby at_179 rfl rfl (oastore Xr14 hx hby at_181 (lc31 i0 i1 i2 i3 1 w0 (own_inward i1) (own_inward i2) (own_inward i3) br5 b3 b4 0 b3 (own_inward i1) b5 b3) rfl rfl (oaload Xr14 hx hby at_183 rfl rfl (str15 _ (oaload Xr15 hx hby at_188 rfl rfl (oacmp (pc := 190) Xr15 hx hby at_190 193 (same := true) rfl rfl (decide_eq_true rfl) (by decide) (oiconst Xr15 hx hby at_193 (ogoto (pc := 194) Xr15 hx hby at_194 198 (by decide) k))))))))) ?_
              obtain ⟨fs, hr, hrun, hended, hW, hsame⟩ := Xr15.leave (v := some (.int 1)) (fun h => by rw [Bd.returns] at h; cases h)
              refine own_out ⟨_, _, ?_, hrun, hended, _, _, rfl, ?_, ⟨_, rfl⟩, hW, hsame.mono (by decide) (by decide)⟩
              · exact retN Xr15 hx (t := .boolean) Bd.returns (by simp) (hb hby at_198) hr
              · exact ⟨rfl, N13⟩
          · by_cases hk13 : (own_inward i2) = (own_inward i3)
            · have hc13 : ¬ ((own_inward i1) < (own_inward i3)) := hk10
              have hc9 : ¬ ((own_inward i2) < (own_inward i3)) := hk11
              have hc6 : ¬ ((own_inward i3) = (-9223372036854775808 : Int64)) := (fun e => by have := congrArg Int64.toInt e; have := own_inward_b i3; have := (by decide : ((-9223372036854775808 : Int64)).toInt = -9223372036854775808); omega)
              have hc7 : ¬ ((own_inward i3) = (9223372036854775807 : Int64)) := (fun e => by have := congrArg Int64.toInt e; have := own_inward_b i3; have := (by decide : ((9223372036854775807 : Int64)).toInt = 9223372036854775807); omega)
              have hc11 : (own_inward i2) = (own_inward i3) := hk13
              obtain ⟨_, Tr13, Lr13, Xr13, hQr13, str13⟩ := ocallV Xr12 hx hZ zm7 zm7 hown (ww hw 34 rfl) (ww hw 35 rfl) (notFace_of_selects (args := #[]) (mvT hZ (ww hw 37 rfl))) (ww hw 37 rfl) (ww hw 36 rfl) (by decide) (ww hw 38 rfl) (ww hw 11 rfl) er12 f41 (rm5_35 l Z a0 hw [] br5 (own_inward i3) w0 b2 (own_inward i2) (own_inward i1) k2 b1 b4 b3 k1 Tr10.heap n0 Z_4 f32 f42 f41 f33 f34 f31 hc13 hc9 hc6 hc7 hc11 f35 f30 f37 f40 f36 g1 (Ne.symm ne2)) (st := [.null, (.long (own_inward i3)), (.ref br5)]) rfl 0 rfl (by decide) (pc := 157) (Ls := (lc29 i0 i1 i2 i3 1 w0 (own_inward i1) (own_inward i2) (own_inward i3) br5 b3 b4 0 b3 (own_inward i1))) hml rfl (lenOf pd_6 rfl) at_157 hby
              obtain ⟨rfl, Nr13q, Kr13, f43, f44, f45, f46, f47⟩ := hQr13
              have N11 := Fr.app N10 Nr13q
              have Z_5 : n0 ≤ Tr13.heap.size := Nat.le_trans Z_4 Kr13.1
              obtain ⟨_, Tr14, Lr14, Xr14, hQr14, str14⟩ := ocallS Xr13 hx hZ zm8 hown (ww hw 69 rfl) (ww hw 70 rfl) (by decide) (ww hw 71 rfl) (ww hw 5 rfl) rfl (rm10_29 l Z a0 hw [] (own_inward i3) (own_inward i1) Tr13.heap n0 Z_5 hc13) (st := [(.long (own_inward i1)), (.long (own_inward i3)), (.int 1)]) rfl 0 rfl (by decide) (pc := 168) (Ls := (lc30 i0 i1 i2 i3 1 w0 (own_inward i1) (own_inward i2) (own_inward i3) br5 b3 b4 0 b3 (own_inward i1) b4)) hml rfl (lenOf pd_7 rfl) at_168 hby
              obtain ⟨rfl, Nr14q, er14⟩ := hQr14
              have N12 := Fr.app N11 Nr14q
              refine own_go (U' := Tr14.setTop (mkF m 171 (lc30 i0 i1 i2 i3 1 w0 (own_inward i1) (own_inward i2) (own_inward i3) br5 b3 b4 0 b3 (own_inward i1) b4) [(.int 0)])) (fun t k => oifY (pc := 128) Xr11 hx hby at_128 136 (by decide) (by decide) (olload Xr11 hx hby at_136 rfl (olstore Xr11 hx hby at_138 (lc29 i0 i1 i2 i3 1 w0 (own_inward i1) (own_inward i2) (own_inward i3) br5 b3 b4 0 b3 (own_inward i1)) rfl (oaload Xr11 hx hby at_140 rfl rfl (str12 _ (oaload Xr12 hx hby at_145 rfl rfl (oacmp (pc := 147) Xr12 hx hby at_147 152 (same := true) rfl rfl (decide_eq_true rfl) (by decide) (oaload Xr12 hx hby at_152 rfl rfl (olload Xr12 hx hby at_154 rfl (onull Xr12 hx hby at_156 (str13 _ (oastore Xr13 hx hby at_160 (lc30 i0 i1 i2 i3 1 w0 (own_inward i1) (own_inward i2) (own_inward i3) br5 b3 b4 0 b3 (own_inward i1) b4) rfl rfl (oiload Xr13 hx hby at_162 rfl (olload Xr13 hx hby at_164 rfl (olload Xr13 hx hby at_166 rfl (str14 _ k)))))))))))))))) ?_
              have f48 : Exa Z Tr13.heap br5 zs2 := (f41.keep Kr13)
              have f49 : Arv Z Tr13.heap b1 k1 (.object zs1) (16 : Int32) [(.ref b4), (.ref b3)] .null := (f30.keep Kr13 (ninS (Ne.symm ne2) nin0))
              obtain ⟨_, Tr15, Lr15, Xr15, hQr15, str15⟩ := ocallV Xr14 hx hZ zm2 zm2 hown (ww hw 27 rfl) (ww hw 28 rfl) (notFace_of_selects (args := #[]) (mvT hZ (ww hw 30 rfl))) (ww hw 30 rfl) (ww hw 29 rfl) (by decide) (ww hw 31 rfl) (ww hw 11 rfl) er14 f48 (rm4_19 l Z a0 hw [] br5 b1 b4 b3 k1 Tr13.heap n0 Z_5 f44 f46 f49) (st := [(.ref br5)]) rfl 0 rfl (by decide) (pc := 185) (Ls := (lc31 i0 i1 i2 i3 1 w0 (own_inward i1) (own_inward i2) (own_inward i3) br5 b3 b4 0 b3 (own_inward i1) b4 b3)) hml rfl (lenOf pd_2 rfl) at_185 hby
              obtain ⟨rfl, Nr15q, er15⟩ := hQr15
              have N13 := Fr.app N12 Nr15q
              refine own_go (U' := Tr15.setTop (mkF m 198 (lc31 i0 i1 i2 i3 1 w0 (own_inward i1) (own_inward i2) (own_inward i3) br5 b3 b4 0 b3 (own_inward i1) b4 b3) [(.int 1)])) (fun t k => oifY (pc := 171) Xr14 hx hby at_171 179 (by decide) (by decide) (oaload Xr14 hx hby at_179 rfl rfl (oastore Xr14 hx hby at_181 (lc31 i0 i1 i2 i3 1 w0 (own_inward i1) (own_inward i2) (own_inward i3) br5 b3 b4 0 b3 (own_inward i1) b4 b3) rfl rfl (oaload Xr14 hx hby at_183 rfl rfl (str15 _ (oaload Xr15 hx hby at_188 rfl rfl (oacmp (pc := 190) Xr15 hx hby at_190 193 (same := true) rfl rfl (decide_eq_true rfl) (by decide) (oiconst Xr15 hx hby at_193 (ogoto (pc := 194) Xr15 hx hby at_194 198 (by decide) k))))))))) ?_
              obtain ⟨fs, hr, hrun, hended, hW, hsame⟩ := Xr15.leave (v := some (.int 1)) (fun h => by rw [Bd.returns] at h; cases h)
              refine own_out ⟨_, _, ?_, hrun, hended, _, _, rfl, ?_, ⟨_, rfl⟩, hW, hsame.mono (by decide) (by decide)⟩
              · exact retN Xr15 hx (t := .boolean) Bd.returns (by simp) (hb hby at_198) hr
              · exact ⟨rfl, N13⟩
            · have f43 : Exa Z Tr10.heap b3 zs1 := (f24.keep Kr10)
              have hc13 : ¬ ((own_inward i1) < (own_inward i3)) := hk10
              have hc9 : ¬ ((own_inward i2) < (own_inward i3)) := hk11
              have hc6 : ¬ ((own_inward i3) = (-9223372036854775808 : Int64)) := (fun e => by have := congrArg Int64.toInt e; have := own_inward_b i3; have := (by decide : ((-9223372036854775808 : Int64)).toInt = -9223372036854775808); omega)
              have hc7 : ¬ ((own_inward i3) = (9223372036854775807 : Int64)) := (fun e => by have := congrArg Int64.toInt e; have := own_inward_b i3; have := (by decide : ((9223372036854775807 : Int64)).toInt = 9223372036854775807); omega)
              have hc12 : ¬ ((own_inward i2) = (own_inward i3)) := hk13
              obtain ⟨_, Tr13, Lr13, Xr13, hQr13, str13⟩ := ocallV Xr12 hx hZ zm7 zm7 hown (ww hw 34 rfl) (ww hw 35 rfl) (notFace_of_selects (args := #[]) (mvT hZ (ww hw 37 rfl))) (ww hw 37 rfl) (ww hw 36 rfl) (by decide) (ww hw 38 rfl) (ww hw 11 rfl) er12 f41 (rm5_38 l Z a0 hw [] br5 (own_inward i3) w0 b2 (own_inward i2) (own_inward i1) k2 b1 b4 b3 k1 Tr10.heap n0 Z_4 f32 f42 f41 f33 f34 f31 hc13 hc9 hc6 hc7 hc12 f35 f30 g2 O1 f43 f37 ne2 (Ne.symm ne1) g3 ne3 f36 g1) (st := [.null, (.long (own_inward i3)), (.ref br5)]) rfl 0 rfl (by decide) (pc := 157) (Ls := (lc29 i0 i1 i2 i3 1 w0 (own_inward i1) (own_inward i2) (own_inward i3) br5 b3 b4 0 b3 (own_inward i1))) hml rfl (lenOf pd_6 rfl) at_157 hby
              obtain ⟨b5, rfl, Nr13q, Kr13, sz5, f44, f45, f46, f47, f48, f49, f50, f51, f52, f53, f54⟩ := hQr13
              have N11 := Fr.app N10 Nr13q
              have Z_5 : n0 ≤ Tr13.heap.size := Nat.le_trans Z_4 Kr13.1
              obtain ⟨_, Tr14, Lr14, Xr14, hQr14, str14⟩ := ocallS Xr13 hx hZ zm8 hown (ww hw 69 rfl) (ww hw 70 rfl) (by decide) (ww hw 71 rfl) (ww hw 5 rfl) rfl (rm10_29 l Z a0 hw [] (own_inward i3) (own_inward i1) Tr13.heap n0 Z_5 hc13) (st := [(.long (own_inward i1)), (.long (own_inward i3)), (.int 1)]) rfl 0 rfl (by decide) (pc := 168) (Ls := (lc30 i0 i1 i2 i3 1 w0 (own_inward i1) (own_inward i2) (own_inward i3) br5 b3 b4 0 b3 (own_inward i1) b5)) hml rfl (lenOf pd_7 rfl) at_168 hby
              obtain ⟨rfl, Nr14q, er14⟩ := hQr14
              have N12 := Fr.app N11 Nr14q
              refine own_go (U' := Tr14.setTop (mkF m 171 (lc30 i0 i1 i2 i3 1 w0 (own_inward i1) (own_inward i2) (own_inward i3) br5 b3 b4 0 b3 (own_inward i1) b5) [(.int 0)])) (fun t k => oifY (pc := 128) Xr11 hx hby at_128 136 (by decide) (by decide) (olload Xr11 hx hby at_136 rfl (olstore Xr11 hx hby at_138 (lc29 i0 i1 i2 i3 1 w0 (own_inward i1) (own_inward i2) (own_inward i3) br5 b3 b4 0 b3 (own_inward i1)) rfl (oaload Xr11 hx hby at_140 rfl rfl (str12 _ (oaload Xr12 hx hby at_145 rfl rfl (oacmp (pc := 147) Xr12 hx hby at_147 152 (same := true) rfl rfl (decide_eq_true rfl) (by decide) (oaload Xr12 hx hby at_152 rfl rfl (olload Xr12 hx hby at_154 rfl (onull Xr12 hx hby at_156 (str13 _ (oastore Xr13 hx hby at_160 (lc30 i0 i1 i2 i3 1 w0 (own_inward i1) (own_inward i2) (own_inward i3) br5 b3 b4 0 b3 (own_inward i1) b5) rfl rfl (oiload Xr13 hx hby at_162 rfl (olload Xr13 hx hby at_164 rfl (olload Xr13 hx hby at_166 rfl (str14 _ k)))))))))))))))) ?_
              have f55 : Exa Z Tr13.heap br5 zs2 := (f41.keep Kr13)
              obtain ⟨_, Tr15, Lr15, Xr15, hQr15, str15⟩ := ocallV Xr14 hx hZ zm2 zm2 hown (ww hw 27 rfl) (ww hw 28 rfl) (notFace_of_selects (args := #[]) (mvT hZ (ww hw 30 rfl))) (ww hw 30 rfl) (ww hw 29 rfl) (by decide) (ww hw 31 rfl) (ww hw 11 rfl) er14 f55 (rm4_24 l Z a0 hw [] br5 b1 b5 b4 b3 k1 Tr13.heap n0 Z_5 f47 f49 f44) (st := [(.ref br5)]) rfl 0 rfl (by decide) (pc := 185) (Ls := (lc31 i0 i1 i2 i3 1 w0 (own_inward i1) (own_inward i2) (own_inward i3) br5 b3 b4 0 b3 (own_inward i1) b5 b3)) hml rfl (lenOf pd_2 rfl) at_185 hby
              obtain ⟨rfl, Nr15q, er15⟩ := hQr15
              have N13 := Fr.app N12 Nr15q
              refine own_go (U' := Tr15.setTop (mkF m 198 (lc31 i0 i1 i2 i3 1 w0 (own_inward i1) (own_inward i2) (own_inward i3) br5 b3 b4 0 b3 (own_inward i1) b5 b3) [(.int 1)])) (fun t k => oifY (pc := 171) Xr14 hx hby at_171 179 (by decide) (by decide) (oaload Xr14 hx hby at_179 rfl rfl (oastore Xr14 hx hby at_181 (lc31 i0 i1 i2 i3 1 w0 (own_inward i1) (own_inward i2) (own_inward i3) br5 b3 b4 0 b3 (own_inward i1) b5 b3) rfl rfl (oaload Xr14 hx hby at_183 rfl rfl (str15 _ (oaload Xr15 hx hby at_188 rfl rfl (oacmp (pc := 190) Xr15 hx hby at_190 193 (same := true) rfl rfl (decide_eq_true rfl) (by decide) (oiconst Xr15 hx hby at_193 (ogoto (pc := 194) Xr15 hx hby at_194 198 (by decide) k))))))))) ?_
              obtain ⟨fs, hr, hrun, hended, hW, hsame⟩ := Xr15.leave (v := some (.int 1)) (fun h => by rw [Bd.returns] at h; cases h)
              refine own_out ⟨_, _, ?_, hrun, hended, _, _, rfl, ?_, ⟨_, rfl⟩, hW, hsame.mono (by decide) (by decide)⟩
              · exact retN Xr15 hx (t := .boolean) Bd.returns (by simp) (hb hby at_198) hr
              · exact ⟨rfl, N13⟩
  · have hv19 : (i0 &&& (1 : Int32)) = (1 : Int32) := hk1
    rw [hv19]
    refine own_go (U' := s₁.setTop (mkF m 15 (lc1 i0 i1 i2 i3 0) [(.int 0)])) (fun t k => oifY (pc := 3) X0 hx hby at_3 10 (by decide) (by decide) (oiconst X0 hx hby at_10 (oistore X0 hx hby at_11 (lc1 i0 i1 i2 i3 0) rfl (oiload X0 hx hby at_13 rfl k)))) ?_
    obtain ⟨Tr1, Xr1, er1, str1⟩ := getS2 X0 hx hZ hown (host := "") (Or.inl (ww hw 81 rfl)) Via.refl e0 S2 (g := (mkF m 24 (lc1 i0 i1 i2 i3 0) [])) rfl (hb hby at_24)
    obtain ⟨_, Tr2, Lr2, Xr2, hQr2, str2⟩ := ocallS Xr1 hx hZ zm0 hown (ww hw 3 rfl) (ww hw 4 rfl) (by decide) (ww hw 6 rfl) (ww hw 5 rfl) er1 (mg1_3 l Z a0 hw [] i1 h0 n0 Z0 ) (st := [(.long i1)]) rfl 0 rfl (by decide) (pc := 30) (Ls := (lc2 i0 i1 i2 i3 0 w1)) hml rfl (lenOf pd_0 rfl) at_30 hby
    obtain ⟨rfl, Nr2q, er2⟩ := hQr2
    have N1 := Fr.app N0 Nr2q
    obtain ⟨_, Tr3, Lr3, Xr3, hQr3, str3⟩ := ocallS Xr2 hx hZ zm0 hown (ww hw 3 rfl) (ww hw 4 rfl) (by decide) (ww hw 6 rfl) (ww hw 5 rfl) er2 (mg1_3 l Z a0 hw [] i2 h0 n0 Z0 ) (st := [(.long i2)]) rfl 0 rfl (by decide) (pc := 36) (Ls := (lc4 i0 i1 i2 i3 0 w1 (own_inward i1))) hml rfl (lenOf pd_0 rfl) at_36 hby
    obtain ⟨rfl, Nr3q, er3⟩ := hQr3
    have N2 := Fr.app N1 Nr3q
    obtain ⟨_, Tr4, Lr4, Xr4, hQr4, str4⟩ := ocallS Xr3 hx hZ zm0 hown (ww hw 3 rfl) (ww hw 4 rfl) (by decide) (ww hw 6 rfl) (ww hw 5 rfl) er3 (mg1_3 l Z a0 hw [] i3 h0 n0 Z0 ) (st := [(.long i3)]) rfl 0 rfl (by decide) (pc := 43) (Ls := (lc5 i0 i1 i2 i3 0 w1 (own_inward i1) (own_inward i2))) hml rfl (lenOf pd_0 rfl) at_43 hby
    obtain ⟨rfl, Nr4q, er4⟩ := hQr4
    have N3 := Fr.app N2 Nr4q
    obtain ⟨Tr5, hr5, Xr5, er5, Er5, Ar5, Dr5, -, str5⟩ := newO Xr4 hx hZ hown (ww hw 9 rfl) (ww hw 10 rfl) (ww hw 11 rfl) er4 (g := (mkF m 48 (lc6 i0 i1 i2 i3 0 w1 (own_inward i1) (own_inward i2) (own_inward i3)) [])) rfl (hb hby at_48) (by decide) (by decide)
    obtain ⟨br5, gr5⟩ : ∃ z, z = h0.size := ⟨_, rfl⟩
    rw [← gr5] at Ar5 Dr5 str5
    have f1 : Fld Z hr5 br5 zs2 "levels" zs3 .null := Dr5 (Or.inl (ww hw 21 rfl)) (ty := (.array (.object zs1))) (by decide)
    have f2 : Fld Z hr5 br5 zs2 "ranks" "[J" .null := Dr5 (Or.inl (ww hw 24 rfl)) (ty := (.array .long)) (by decide)
    have f3 : Fld Z hr5 br5 zs2 "side" zs4 .null := Dr5 (Or.inr (ww hw 26 rfl)) (ty := (.object zs6)) (by decide)
    have f4 : Fld Z hr5 br5 zs2 "count" "I" (.int 0) := Dr5 (Or.inl (ww hw 33 rfl)) (ty := .int) (by decide)
    have f5 : Fld Z hr5 br5 zs2 "emptyLevels" "I" (.int 0) := Dr5 (Or.inl (ww hw 80 rfl)) (ty := .int) (by decide)
    have g1 : n0 ≤ br5 := Nat.le_trans Z0 (Nat.le_of_eq gr5.symm)
    have Z_1 : n0 ≤ hr5.size := Nat.le_trans Z0 Er5.1
    obtain ⟨_, Tr6, Lr6, Xr6, hQr6, str6⟩ := ocallI Xr5 hx hZ zm1 rfl hown (ww hw 12 rfl) (ww hw 13 rfl) (by decide) (ww hw 14 rfl) (ww hw 11 rfl) er5 (rm2_4 l Z a0 hw [] br5 w1 hr5 n0 Z_1 f1 f2 f3 f4 f5 Ar5 g1) (st := [(.ref w1), (.ref br5), (.ref br5)]) rfl 1 rfl (by decide) (pc := 54) (Ls := (lc6 i0 i1 i2 i3 0 w1 (own_inward i1) (own_inward i2) (own_inward i3))) hml rfl (lenOf pd_1 rfl) at_54 hby
    obtain ⟨b1, b2, k1, k2, rfl, Nr6q, Kr6, sz1, sz2, ne1, O1, f6, f7, f8, f9, f10, f11, f12, f13, f14⟩ := hQr6
    have N4 := Fr.app N3 Nr6q
    have f15 : Exa Z Tr6.heap br5 zs2 := (Ar5.keep Kr6)
    have Z_2 : n0 ≤ Tr6.heap.size := Nat.le_trans Z_1 Kr6.1
    obtain ⟨_, Tr7, Lr7, Xr7, hQr7, str7⟩ := ocallV Xr6 hx hZ zm2 zm2 hown (ww hw 27 rfl) (ww hw 28 rfl) (notFace_of_selects (args := #[]) (mvT hZ (ww hw 30 rfl))) (ww hw 30 rfl) (ww hw 29 rfl) (by decide) (ww hw 31 rfl) (ww hw 11 rfl) rfl f15 (rm4_5 l Z a0 hw [] br5 Tr6.heap n0 Z_2 f9) (st := [(.ref br5)]) rfl 0 rfl (by decide) (pc := 61) (Ls := (lc8 i0 i1 i2 i3 0 w1 (own_inward i1) (own_inward i2) (own_inward i3) br5)) hml rfl (lenOf pd_2 rfl) at_61 hby
    obtain ⟨rfl, Nr7q, er7⟩ := hQr7
    have N5 := Fr.app N4 Nr7q
    have f16 : Sta Z Tr6.heap zs6 "BUY" zs4 (.ref w0) := (own_staK (Sta.ext Er5 S0) Kr6 (allS (own_nsF f1) all0))
    have g2 : n0 ≤ b1 := Nat.le_trans Z_1 sz1
    have ne2 : br5 ≠ b1 := Nat.ne_of_lt (Nat.lt_of_lt_of_le (f1.lt) sz1)
    have g3 : n0 ≤ b2 := Nat.le_trans Z_1 sz2
    have ne3 : br5 ≠ b2 := Nat.ne_of_lt (Nat.lt_of_lt_of_le (f1.lt) sz2)
    have ha20 : w1 ≠ w0 := (Fld.ne S4 S5 (by decide))
    have hc21 : ¬ (((own_inward i1) ^^^ (-1 : Int64)) = (-9223372036854775808 : Int64)) := (fun e => by have := congrArg Int64.toInt e; have := own_inward_b i1; have := own_xnJ (own_inward i1); have := (by decide : ((-9223372036854775808 : Int64)).toInt = -9223372036854775808); omega)
    have hc22 : ¬ (((own_inward i1) ^^^ (-1 : Int64)) = (9223372036854775807 : Int64)) := (fun e => by have := congrArg Int64.toInt e; have := own_inward_b i1; have := own_xnJ (own_inward i1); have := (by decide : ((9223372036854775807 : Int64)).toInt = 9223372036854775807); omega)
    obtain ⟨_, Tr8, Lr8, Xr8, hQr8, str8⟩ := ocallV Xr7 hx hZ zm7 zm7 hown (ww hw 34 rfl) (ww hw 35 rfl) (notFace_of_selects (args := #[]) (mvT hZ (ww hw 37 rfl))) (ww hw 37 rfl) (ww hw 36 rfl) (by decide) (ww hw 38 rfl) (ww hw 11 rfl) er7 f15 (rm5_51 l Z a0 hw [] br5 (own_inward i1) w1 w0 b1 k1 b2 k2 Tr6.heap n0 Z_2 f8 f16 ha20 f15 f9 hc21 hc22 f6 f12 g2 O1 f7 ne2 f14 (Ne.symm ne1) g3 ne3 f10 g1) (st := [.null, (.long (own_inward i1)), (.ref br5)]) rfl 0 rfl (by decide) (pc := 74) (Ls := (lc8 i0 i1 i2 i3 0 w1 (own_inward i1) (own_inward i2) (own_inward i3) br5)) hml rfl (lenOf pd_6 rfl) at_74 hby
    obtain ⟨b3, rfl, Nr8q, Kr8, sz3, f17, f18, f19, f20, f21, f22, f23, f24, f25, f26, f27⟩ := hQr8
    have N6 := Fr.app N5 Nr8q
    have f28 : Exa Z Tr8.heap br5 zs2 := (f15.keep Kr8)
    have Z_3 : n0 ≤ Tr8.heap.size := Nat.le_trans Z_2 Kr8.1
    obtain ⟨_, Tr9, Lr9, Xr9, hQr9, str9⟩ := ocallV Xr8 hx hZ zm2 zm2 hown (ww hw 27 rfl) (ww hw 28 rfl) (notFace_of_selects (args := #[]) (mvT hZ (ww hw 30 rfl))) (ww hw 30 rfl) (ww hw 29 rfl) (by decide) (ww hw 31 rfl) (ww hw 11 rfl) rfl f28 (rm4_12 l Z a0 hw [] br5 b1 b3 k1 Tr8.heap n0 Z_3 f20 f21 f17) (st := [(.ref br5)]) rfl 0 rfl (by decide) (pc := 81) (Ls := (lc24 i0 i1 i2 i3 0 w1 (own_inward i1) (own_inward i2) (own_inward i3) br5 b3)) hml rfl (lenOf pd_2 rfl) at_81 hby
    obtain ⟨rfl, Nr9q, er9⟩ := hQr9
    have N7 := Fr.app N6 Nr9q
    have f29 : Sta Z Tr8.heap zs6 "BUY" zs4 (.ref w0) := (own_staK f16 Kr8 (allS (own_nsE f11) (allS (own_nsE f13) (allS (own_nsE (Ar5.keep Kr6)) all0))))
    by_cases hk14 : ((own_inward i1) ^^^ (-1 : Int64)) < ((own_inward i2) ^^^ (-1 : Int64))
    · have hc25 : ((own_inward i1) ^^^ (-1 : Int64)) < ((own_inward i2) ^^^ (-1 : Int64)) := hk14
      have hc23 : ¬ (((own_inward i2) ^^^ (-1 : Int64)) = (-9223372036854775808 : Int64)) := (fun e => by have := congrArg Int64.toInt e; have := own_inward_b i2; have := own_xnJ (own_inward i2); have := (by decide : ((-9223372036854775808 : Int64)).toInt = -9223372036854775808); omega)
      have hc24 : ¬ (((own_inward i2) ^^^ (-1 : Int64)) = (9223372036854775807 : Int64)) := (fun e => by have := congrArg Int64.toInt e; have := own_inward_b i2; have := own_xnJ (own_inward i2); have := (by decide : ((9223372036854775807 : Int64)).toInt = 9223372036854775807); omega)
      obtain ⟨_, Tr10, Lr10, Xr10, hQr10, str10⟩ := ocallV Xr9 hx hZ zm7 zm7 hown (ww hw 34 rfl) (ww hw 35 rfl) (notFace_of_selects (args := #[]) (mvT hZ (ww hw 37 rfl))) (ww hw 37 rfl) (ww hw 36 rfl) (by decide) (ww hw 38 rfl) (ww hw 11 rfl) er9 f28 (rm5_54 l Z a0 hw [] br5 (own_inward i2) w1 w0 b2 ((own_inward i1) ^^^ (-1 : Int64)) k2 b1 b3 k1 Tr8.heap n0 Z_3 f19 f29 ha20 f28 f20 f22 f18 hc25 hc23 hc24 f21 f17 g2 O1 ne2 (Ne.symm ne1) g3 ne3 f23 g1) (st := [.null, (.long (own_inward i2)), (.ref br5)]) rfl 0 rfl (by decide) (pc := 96) (Ls := (lc24 i0 i1 i2 i3 0 w1 (own_inward i1) (own_inward i2) (own_inward i3) br5 b3)) hml rfl (lenOf pd_6 rfl) at_96 hby
      obtain ⟨b4, rfl, Nr10q, Kr10, sz4, f30, f31, f32, f33, f34, f35, f36, f37, f38, f39, f40⟩ := hQr10
      have N8 := Fr.app N7 Nr10q
      have Z_4 : n0 ≤ Tr10.heap.size := Nat.le_trans Z_3 Kr10.1
      have hc26 : (own_inward i2) < (own_inward i1) := (Int64.lt_iff_toInt_lt.mpr (by have := Int64.lt_iff_toInt_lt.mp hk14; have := own_inward_b i2; have := own_inward_b i1; have := own_xnJ (own_inward i1); have := own_xnJ (own_inward i2); omega))
      obtain ⟨_, Tr11, Lr11, Xr11, hQr11, str11⟩ := ocallS Xr10 hx hZ zm8 hown (ww hw 69 rfl) (ww hw 70 rfl) (by decide) (ww hw 71 rfl) (ww hw 5 rfl) rfl (rm10_55 l Z a0 hw [] (own_inward i2) (own_inward i1) Tr10.heap n0 Z_4 hc26) (st := [(.long (own_inward i1)), (.long (own_inward i2)), (.int 0)]) rfl 0 rfl (by decide) (pc := 107) (Ls := (lc25 i0 i1 i2 i3 0 w1 (own_inward i1) (own_inward i2) (own_inward i3) br5 b3 b4)) hml rfl (lenOf pd_7 rfl) at_107 hby
      obtain ⟨rfl, Nr11q, er11⟩ := hQr11
      have N9 := Fr.app N8 Nr11q
      refine own_go (U' := Tr11.setTop (mkF m 114 (lc27 i0 i1 i2 i3 0 w1 (own_inward i1) (own_inward i2) (own_inward i3) br5 b3 b4 1) [(.int 1)])) (fun t k => oifY (pc := 15) X0 hx hby at_15 24 (by decide) (by decide) (str1 _ (oastore Xr1 hx hby at_27 (lc2 i0 i1 i2 i3 0 w1) rfl rfl (olloadN Xr1 hx hby at_29 rfl (str2 _ (olstore Xr2 hx hby at_33 (lc4 i0 i1 i2 i3 0 w1 (own_inward i1)) rfl (olloadN Xr2 hx hby at_35 rfl (str3 _ (olstore Xr3 hx hby at_39 (lc5 i0 i1 i2 i3 0 w1 (own_inward i1) (own_inward i2)) rfl (olload Xr3 hx hby at_41 rfl (str4 _ (olstore Xr4 hx hby at_46 (lc6 i0 i1 i2 i3 0 w1 (own_inward i1) (own_inward i2) (own_inward i3)) rfl (str5 _ (odup Xr5 hx hby at_51 rfl (oaload Xr5 hx hby at_52 rfl rfl (str6 _ (oastore Xr6 hx hby at_57 (lc8 i0 i1 i2 i3 0 w1 (own_inward i1) (own_inward i2) (own_inward i3) br5) rfl rfl (oaload Xr6 hx hby at_59 rfl rfl (str7 _ (onlY (pc := 64) Xr7 hx hby at_64 69 (by decide) (oaload Xr7 hx hby at_69 rfl rfl (olload Xr7 hx hby at_71 rfl (onull Xr7 hx hby at_73 (str8 _ (oastore Xr8 hx hby at_77 (lc24 i0 i1 i2 i3 0 w1 (own_inward i1) (own_inward i2) (own_inward i3) br5 b3) rfl rfl (oaload Xr8 hx hby at_79 rfl rfl (str9 _ (oaload Xr9 hx hby at_84 rfl rfl (oacmp (pc := 86) Xr9 hx hby at_86 91 (same := true) rfl rfl (decide_eq_true rfl) (by decide) (oaload Xr9 hx hby at_91 rfl rfl (olload Xr9 hx hby at_93 rfl (onull Xr9 hx hby at_95 (str10 _ (oastore Xr10 hx hby at_99 (lc25 i0 i1 i2 i3 0 w1 (own_inward i1) (own_inward i2) (own_inward i3) br5 b3 b4) rfl rfl (oiload Xr10 hx hby at_101 rfl (olload Xr10 hx hby at_103 rfl (olload Xr10 hx hby at_105 rfl (str11 _ (oistore Xr11 hx hby at_110 (lc27 i0 i1 i2 i3 0 w1 (own_inward i1) (own_inward i2) (own_inward i3) br5 b3 b4 1) rfl (oiload Xr11 hx hby at_112 rfl k)))))))))))))))))))))))))))))))))))))))) ?_
      refine own_go (U' := Tr11.setTop (mkF m 128 (lc28 i0 i1 i2 i3 0 w1 (own_inward i1) (own_inward i2) (own_inward i3) br5 b3 b4 1 b4) [(.int 1)])) (fun t k => oifN Xr11 hx hby at_114 (by decide) (oaload Xr11 hx hby at_117 rfl rfl (ogoto (pc := 119) Xr11 hx hby at_119 124 (by decide) (oastore Xr11 hx hby at_124 (lc28 i0 i1 i2 i3 0 w1 (own_inward i1) (own_inward i2) (own_inward i3) br5 b3 b4 1 b4) rfl rfl (oiload Xr11 hx hby at_126 rfl k))))) ?_
      have f41 : Exa Z Tr10.heap br5 zs2 := (f28.keep Kr10)
      obtain ⟨_, Tr12, Lr12, Xr12, hQr12, str12⟩ := ocallV Xr11 hx hZ zm2 zm2 hown (ww hw 27 rfl) (ww hw 28 rfl) (notFace_of_selects (args := #[]) (mvT hZ (ww hw 30 rfl))) (ww hw 30 rfl) (ww hw 29 rfl) (by decide) (ww hw 31 rfl) (ww hw 11 rfl) er11 f41 (rm4_19 l Z a0 hw [] br5 b1 b3 b4 k1 Tr10.heap n0 Z_4 f33 f35 f30) (st := [(.ref br5)]) rfl 0 rfl (by decide) (pc := 142) (Ls := (lc29 i0 i1 i2 i3 0 w1 (own_inward i1) (own_inward i2) (own_inward i3) br5 b3 b4 1 b4 (own_inward i2))) hml rfl (lenOf pd_2 rfl) at_142 hby
      obtain ⟨rfl, Nr12q, er12⟩ := hQr12
      have N10 := Fr.app N9 Nr12q
      have f42 : Sta Z Tr10.heap zs6 "BUY" zs4 (.ref w0) := (own_staK f29 Kr10 (allS (own_nsE (f11.keep Kr8)) (allS (own_nsE (f13.keep Kr8)) (allS (own_nsE ((Ar5.keep Kr6).keep Kr8)) all0))))
      by_cases hk15 : ((own_inward i2) ^^^ (-1 : Int64)) < ((own_inward i3) ^^^ (-1 : Int64))
      · have hc29 : ((own_inward i2) ^^^ (-1 : Int64)) < ((own_inward i3) ^^^ (-1 : Int64)) := hk15
        have hc27 : ¬ (((own_inward i3) ^^^ (-1 : Int64)) = (-9223372036854775808 : Int64)) := (fun e => by have := congrArg Int64.toInt e; have := own_inward_b i3; have := own_xnJ (own_inward i3); have := (by decide : ((-9223372036854775808 : Int64)).toInt = -9223372036854775808); omega)
        have hc28 : ¬ (((own_inward i3) ^^^ (-1 : Int64)) = (9223372036854775807 : Int64)) := (fun e => by have := congrArg Int64.toInt e; have := own_inward_b i3; have := own_xnJ (own_inward i3); have := (by decide : ((9223372036854775807 : Int64)).toInt = 9223372036854775807); omega)
        obtain ⟨_, Tr13, Lr13, Xr13, hQr13, str13⟩ := ocallV Xr12 hx hZ zm7 zm7 hown (ww hw 34 rfl) (ww hw 35 rfl) (notFace_of_selects (args := #[]) (mvT hZ (ww hw 37 rfl))) (ww hw 37 rfl) (ww hw 36 rfl) (by decide) (ww hw 38 rfl) (ww hw 11 rfl) er12 f41 (rm5_58 l Z a0 hw [] br5 (own_inward i3) w1 w0 b2 ((own_inward i1) ^^^ (-1 : Int64)) ((own_inward i2) ^^^ (-1 : Int64)) k2 b1 b3 b4 k1 Tr10.heap n0 Z_4 f32 f42 ha20 f41 f33 f34 f31 hc29 hc27 hc28 f35 f30 g2 O1 ne2 (Ne.symm ne1) g3 ne3 f36 g1) (st := [.null, (.long (own_inward i3)), (.ref br5)]) rfl 0 rfl (by decide) (pc := 157) (Ls := (lc29 i0 i1 i2 i3 0 w1 (own_inward i1) (own_inward i2) (own_inward i3) br5 b3 b4 1 b4 (own_inward i2))) hml rfl (lenOf pd_6 rfl) at_157 hby
        obtain ⟨b5, rfl, Nr13q, Kr13, sz5, f43, f44, f45, f46, f47, f48, f49, f50, f51, f52, f53⟩ := hQr13
        have N11 := Fr.app N10 Nr13q
        have Z_5 : n0 ≤ Tr13.heap.size := Nat.le_trans Z_4 Kr13.1
        have hc30 : (own_inward i3) < (own_inward i2) := (Int64.lt_iff_toInt_lt.mpr (by have := Int64.lt_iff_toInt_lt.mp hk15; have := own_inward_b i3; have := own_inward_b i2; have := own_xnJ (own_inward i2); have := own_xnJ (own_inward i3); omega))
        obtain ⟨_, Tr14, Lr14, Xr14, hQr14, str14⟩ := ocallS Xr13 hx hZ zm8 hown (ww hw 69 rfl) (ww hw 70 rfl) (by decide) (ww hw 71 rfl) (ww hw 5 rfl) rfl (rm10_55 l Z a0 hw [] (own_inward i3) (own_inward i2) Tr13.heap n0 Z_5 hc30) (st := [(.long (own_inward i2)), (.long (own_inward i3)), (.int 0)]) rfl 0 rfl (by decide) (pc := 168) (Ls := (lc30 i0 i1 i2 i3 0 w1 (own_inward i1) (own_inward i2) (own_inward i3) br5 b3 b4 1 b4 (own_inward i2) b5)) hml rfl (lenOf pd_7 rfl) at_168 hby
        obtain ⟨rfl, Nr14q, er14⟩ := hQr14
        have N12 := Fr.app N11 Nr14q
        refine own_go (U' := Tr14.setTop (mkF m 171 (lc30 i0 i1 i2 i3 0 w1 (own_inward i1) (own_inward i2) (own_inward i3) br5 b3 b4 1 b4 (own_inward i2) b5) [(.int 1)])) (fun t k => oifN Xr11 hx hby at_128 (by decide) (olload Xr11 hx hby at_131 rfl (ogoto (pc := 133) Xr11 hx hby at_133 138 (by decide) (olstore Xr11 hx hby at_138 (lc29 i0 i1 i2 i3 0 w1 (own_inward i1) (own_inward i2) (own_inward i3) br5 b3 b4 1 b4 (own_inward i2)) rfl (oaload Xr11 hx hby at_140 rfl rfl (str12 _ (oaload Xr12 hx hby at_145 rfl rfl (oacmp (pc := 147) Xr12 hx hby at_147 152 (same := true) rfl rfl (decide_eq_true rfl) (by decide) (oaload Xr12 hx hby at_152 rfl rfl (olload Xr12 hx hby at_154 rfl (onull Xr12 hx hby at_156 (str13 _ (oastore Xr13 hx hby at_160 (lc30 i0 i1 i2 i3 0 w1 (own_inward i1) (own_inward i2) (own_inward i3) br5 b3 b4 1 b4 (own_inward i2) b5) rfl rfl (oiload Xr13 hx hby at_162 rfl (olload Xr13 hx hby at_164 rfl (olload Xr13 hx hby at_166 rfl (str14 _ k))))))))))))))))) ?_
        have f54 : Exa Z Tr13.heap br5 zs2 := (f41.keep Kr13)
        obtain ⟨_, Tr15, Lr15, Xr15, hQr15, str15⟩ := ocallV Xr14 hx hZ zm2 zm2 hown (ww hw 27 rfl) (ww hw 28 rfl) (notFace_of_selects (args := #[]) (mvT hZ (ww hw 30 rfl))) (ww hw 30 rfl) (ww hw 29 rfl) (by decide) (ww hw 31 rfl) (ww hw 11 rfl) er14 f54 (rm4_24 l Z a0 hw [] br5 b1 b3 b4 b5 k1 Tr13.heap n0 Z_5 f46 f48 f43) (st := [(.ref br5)]) rfl 0 rfl (by decide) (pc := 185) (Ls := (lc31 i0 i1 i2 i3 0 w1 (own_inward i1) (own_inward i2) (own_inward i3) br5 b3 b4 1 b4 (own_inward i2) b5 b5)) hml rfl (lenOf pd_2 rfl) at_185 hby
        obtain ⟨rfl, Nr15q, er15⟩ := hQr15
        have N13 := Fr.app N12 Nr15q
        refine own_go (U' := Tr15.setTop (mkF m 198 (lc31 i0 i1 i2 i3 0 w1 (own_inward i1) (own_inward i2) (own_inward i3) br5 b3 b4 1 b4 (own_inward i2) b5 b5) [(.int 1)])) (fun t k => oifN Xr14 hx hby at_171 (by decide) (oaload Xr14 hx hby at_174 rfl rfl (ogoto (pc := 176) Xr14 hx hby at_176 181 (by decide) (oastore Xr14 hx hby at_181 (lc31 i0 i1 i2 i3 0 w1 (own_inward i1) (own_inward i2) (own_inward i3) br5 b3 b4 1 b4 (own_inward i2) b5 b5) rfl rfl (oaload Xr14 hx hby at_183 rfl rfl (str15 _ (oaload Xr15 hx hby at_188 rfl rfl (oacmp (pc := 190) Xr15 hx hby at_190 193 (same := true) rfl rfl (decide_eq_true rfl) (by decide) (oiconst Xr15 hx hby at_193 (ogoto (pc := 194) Xr15 hx hby at_194 198 (by decide) k)))))))))) ?_
        obtain ⟨fs, hr, hrun, hended, hW, hsame⟩ := Xr15.leave (v := some (.int 1)) (fun h => by rw [Bd.returns] at h; cases h)
        refine own_out ⟨_, _, ?_, hrun, hended, _, _, rfl, ?_, ⟨_, rfl⟩, hW, hsame.mono (by decide) (by decide)⟩
        · exact retN Xr15 hx (t := .boolean) Bd.returns (by simp) (hb hby at_198) hr
        · exact ⟨rfl, N13⟩
      · by_cases hk16 : ((own_inward i1) ^^^ (-1 : Int64)) < ((own_inward i3) ^^^ (-1 : Int64))
        · have hc31 : ¬ (((own_inward i2) ^^^ (-1 : Int64)) < ((own_inward i3) ^^^ (-1 : Int64))) := hk15
          have hc32 : ((own_inward i1) ^^^ (-1 : Int64)) < ((own_inward i3) ^^^ (-1 : Int64)) := hk16
          have hc27 : ¬ (((own_inward i3) ^^^ (-1 : Int64)) = (-9223372036854775808 : Int64)) := (fun e => by have := congrArg Int64.toInt e; have := own_inward_b i3; have := own_xnJ (own_inward i3); have := (by decide : ((-9223372036854775808 : Int64)).toInt = -9223372036854775808); omega)
          have hc28 : ¬ (((own_inward i3) ^^^ (-1 : Int64)) = (9223372036854775807 : Int64)) := (fun e => by have := congrArg Int64.toInt e; have := own_inward_b i3; have := own_xnJ (own_inward i3); have := (by decide : ((9223372036854775807 : Int64)).toInt = 9223372036854775807); omega)
          by_cases hk17 : ((own_inward i2) ^^^ (-1 : Int64)) = ((own_inward i3) ^^^ (-1 : Int64))
          · have hc33 : ((own_inward i2) ^^^ (-1 : Int64)) = ((own_inward i3) ^^^ (-1 : Int64)) := hk17
            obtain ⟨_, Tr13, Lr13, Xr13, hQr13, str13⟩ := ocallV Xr12 hx hZ zm7 zm7 hown (ww hw 34 rfl) (ww hw 35 rfl) (notFace_of_selects (args := #[]) (mvT hZ (ww hw 37 rfl))) (ww hw 37 rfl) (ww hw 36 rfl) (by decide) (ww hw 38 rfl) (ww hw 11 rfl) er12 f41 (rm5_61 l Z a0 hw [] br5 (own_inward i3) w1 w0 b2 ((own_inward i1) ^^^ (-1 : Int64)) ((own_inward i2) ^^^ (-1 : Int64)) k2 b1 b3 b4 k1 Tr10.heap n0 Z_4 f32 f42 ha20 f41 f33 f34 f31 hc31 hc32 hc27 hc28 hc33 f35 f30 f37 f40 f36 g1 (Ne.symm ne2)) (st := [.null, (.long (own_inward i3)), (.ref br5)]) rfl 0 rfl (by decide) (pc := 157) (Ls := (lc29 i0 i1 i2 i3 0 w1 (own_inward i1) (own_inward i2) (own_inward i3) br5 b3 b4 1 b4 (own_inward i2))) hml rfl (lenOf pd_6 rfl) at_157 hby
            obtain ⟨rfl, Nr13q, Kr13, f43, f44, f45, f46, f47⟩ := hQr13
            have N11 := Fr.app N10 Nr13q
            have Z_5 : n0 ≤ Tr13.heap.size := Nat.le_trans Z_4 Kr13.1
            have hc34 : ¬ ((own_inward i3) < (own_inward i2)) := (fun e => by have := Int64.lt_iff_toInt_lt.mp e; have : ¬ (((own_inward i2) ^^^ (-1 : Int64))).toInt < (((own_inward i3) ^^^ (-1 : Int64))).toInt := fun e => hk15 (Int64.lt_iff_toInt_lt.mpr e); have := own_inward_b i3; have := own_inward_b i2; have := own_xnJ (own_inward i2); have := own_xnJ (own_inward i3); omega)
            obtain ⟨_, Tr14, Lr14, Xr14, hQr14, str14⟩ := ocallS Xr13 hx hZ zm8 hown (ww hw 69 rfl) (ww hw 70 rfl) (by decide) (ww hw 71 rfl) (ww hw 5 rfl) rfl (rm10_62 l Z a0 hw [] (own_inward i3) (own_inward i2) Tr13.heap n0 Z_5 hc34) (st := [(.long (own_inward i2)), (.long (own_inward i3)), (.int 0)]) rfl 0 rfl (by decide) (pc := 168) (Ls := (lc30 i0 i1 i2 i3 0 w1 (own_inward i1) (own_inward i2) (own_inward i3) br5 b3 b4 1 b4 (own_inward i2) b4)) hml rfl (lenOf pd_7 rfl) at_168 hby
            obtain ⟨rfl, Nr14q, er14⟩ := hQr14
            have N12 := Fr.app N11 Nr14q
            refine own_go (U' := Tr14.setTop (mkF m 171 (lc30 i0 i1 i2 i3 0 w1 (own_inward i1) (own_inward i2) (own_inward i3) br5 b3 b4 1 b4 (own_inward i2) b4) [(.int 0)])) (fun t k => oifN Xr11 hx hby at_128 (by decide) (olload Xr11 hx hby at_131 rfl (ogoto (pc := 133) Xr11 hx hby at_133 138 (by decide) (olstore Xr11 hx hby at_138 (lc29 i0 i1 i2 i3 0 w1 (own_inward i1) (own_inward i2) (own_inward i3) br5 b3 b4 1 b4 (own_inward i2)) rfl (oaload Xr11 hx hby at_140 rfl rfl (str12 _ (oaload Xr12 hx hby at_145 rfl rfl (oacmp (pc := 147) Xr12 hx hby at_147 152 (same := true) rfl rfl (decide_eq_true rfl) (by decide) (oaload Xr12 hx hby at_152 rfl rfl (olload Xr12 hx hby at_154 rfl (onull Xr12 hx hby at_156 (str13 _ (oastore Xr13 hx hby at_160 (lc30 i0 i1 i2 i3 0 w1 (own_inward i1) (own_inward i2) (own_inward i3) br5 b3 b4 1 b4 (own_inward i2) b4) rfl rfl (oiload Xr13 hx hby at_162 rfl (olload Xr13 hx hby at_164 rfl (olload Xr13 hx hby at_166 rfl (str14 _ k))))))))))))))))) ?_
            have f48 : Exa Z Tr13.heap br5 zs2 := (f41.keep Kr13)
            have f49 : Arv Z Tr13.heap b1 k1 (.object zs1) (16 : Int32) [(.ref b3), (.ref b4)] .null := (f30.keep Kr13 (ninS (Ne.symm ne2) nin0))
            obtain ⟨_, Tr15, Lr15, Xr15, hQr15, str15⟩ := ocallV Xr14 hx hZ zm2 zm2 hown (ww hw 27 rfl) (ww hw 28 rfl) (notFace_of_selects (args := #[]) (mvT hZ (ww hw 30 rfl))) (ww hw 30 rfl) (ww hw 29 rfl) (by decide) (ww hw 31 rfl) (ww hw 11 rfl) er14 f48 (rm4_19 l Z a0 hw [] br5 b1 b3 b4 k1 Tr13.heap n0 Z_5 f44 f46 f49) (st := [(.ref br5)]) rfl 0 rfl (by decide) (pc := 185) (Ls := (lc31 i0 i1 i2 i3 0 w1 (own_inward i1) (own_inward i2) (own_inward i3) br5 b3 b4 1 b4 (own_inward i2) b4 b4)) hml rfl (lenOf pd_2 rfl) at_185 hby
            obtain ⟨rfl, Nr15q, er15⟩ := hQr15
            have N13 := Fr.app N12 Nr15q
            refine own_go (U' := Tr15.setTop (mkF m 198 (lc31 i0 i1 i2 i3 0 w1 (own_inward i1) (own_inward i2) (own_inward i3) br5 b3 b4 1 b4 (own_inward i2) b4 b4) [(.int 1)])) (fun t k => oifY (pc := 171) Xr14 hx hby at_171 179 (by decide) (by decide) (oaload Xr14 hx hby at_179 rfl rfl (oastore Xr14 hx hby at_181 (lc31 i0 i1 i2 i3 0 w1 (own_inward i1) (own_inward i2) (own_inward i3) br5 b3 b4 1 b4 (own_inward i2) b4 b4) rfl rfl (oaload Xr14 hx hby at_183 rfl rfl (str15 _ (oaload Xr15 hx hby at_188 rfl rfl (oacmp (pc := 190) Xr15 hx hby at_190 193 (same := true) rfl rfl (decide_eq_true rfl) (by decide) (oiconst Xr15 hx hby at_193 (ogoto (pc := 194) Xr15 hx hby at_194 198 (by decide) k))))))))) ?_
            obtain ⟨fs, hr, hrun, hended, hW, hsame⟩ := Xr15.leave (v := some (.int 1)) (fun h => by rw [Bd.returns] at h; cases h)
            refine own_out ⟨_, _, ?_, hrun, hended, _, _, rfl, ?_, ⟨_, rfl⟩, hW, hsame.mono (by decide) (by decide)⟩
            · exact retN Xr15 hx (t := .boolean) Bd.returns (by simp) (hb hby at_198) hr
            · exact ⟨rfl, N13⟩
          · have hc35 : ¬ (((own_inward i2) ^^^ (-1 : Int64)) = ((own_inward i3) ^^^ (-1 : Int64))) := hk17
            obtain ⟨_, Tr13, Lr13, Xr13, hQr13, str13⟩ := ocallV Xr12 hx hZ zm7 zm7 hown (ww hw 34 rfl) (ww hw 35 rfl) (notFace_of_selects (args := #[]) (mvT hZ (ww hw 37 rfl))) (ww hw 37 rfl) (ww hw 36 rfl) (by decide) (ww hw 38 rfl) (ww hw 11 rfl) er12 f41 (rm5_65 l Z a0 hw [] br5 (own_inward i3) w1 w0 b2 ((own_inward i1) ^^^ (-1 : Int64)) ((own_inward i2) ^^^ (-1 : Int64)) k2 b1 b3 b4 k1 Tr10.heap n0 Z_4 f32 f42 ha20 f41 f33 f34 f31 hc31 hc32 hc27 hc28 hc35 f35 f30 g2 O1 f37 ne2 (Ne.symm ne1) g3 ne3 f36 g1) (st := [.null, (.long (own_inward i3)), (.ref br5)]) rfl 0 rfl (by decide) (pc := 157) (Ls := (lc29 i0 i1 i2 i3 0 w1 (own_inward i1) (own_inward i2) (own_inward i3) br5 b3 b4 1 b4 (own_inward i2))) hml rfl (lenOf pd_6 rfl) at_157 hby
            obtain ⟨b5, rfl, Nr13q, Kr13, sz5, f43, f44, f45, f46, f47, f48, f49, f50, f51, f52, f53⟩ := hQr13
            have N11 := Fr.app N10 Nr13q
            have Z_5 : n0 ≤ Tr13.heap.size := Nat.le_trans Z_4 Kr13.1
            have hc34 : ¬ ((own_inward i3) < (own_inward i2)) := (fun e => by have := Int64.lt_iff_toInt_lt.mp e; have : ¬ (((own_inward i2) ^^^ (-1 : Int64))).toInt < (((own_inward i3) ^^^ (-1 : Int64))).toInt := fun e => hk15 (Int64.lt_iff_toInt_lt.mpr e); have := own_inward_b i3; have := own_inward_b i2; have := own_xnJ (own_inward i2); have := own_xnJ (own_inward i3); omega)
            obtain ⟨_, Tr14, Lr14, Xr14, hQr14, str14⟩ := ocallS Xr13 hx hZ zm8 hown (ww hw 69 rfl) (ww hw 70 rfl) (by decide) (ww hw 71 rfl) (ww hw 5 rfl) rfl (rm10_62 l Z a0 hw [] (own_inward i3) (own_inward i2) Tr13.heap n0 Z_5 hc34) (st := [(.long (own_inward i2)), (.long (own_inward i3)), (.int 0)]) rfl 0 rfl (by decide) (pc := 168) (Ls := (lc30 i0 i1 i2 i3 0 w1 (own_inward i1) (own_inward i2) (own_inward i3) br5 b3 b4 1 b4 (own_inward i2) b5)) hml rfl (lenOf pd_7 rfl) at_168 hby
            obtain ⟨rfl, Nr14q, er14⟩ := hQr14
            have N12 := Fr.app N11 Nr14q
            refine own_go (U' := Tr14.setTop (mkF m 171 (lc30 i0 i1 i2 i3 0 w1 (own_inward i1) (own_inward i2) (own_inward i3) br5 b3 b4 1 b4 (own_inward i2) b5) [(.int 0)])) (fun t k => oifN Xr11 hx hby at_128 (by decide) (olload Xr11 hx hby at_131 rfl (ogoto (pc := 133) Xr11 hx hby at_133 138 (by decide) (olstore Xr11 hx hby at_138 (lc29 i0 i1 i2 i3 0 w1 (own_inward i1) (own_inward i2) (own_inward i3) br5 b3 b4 1 b4 (own_inward i2)) rfl (oaload Xr11 hx hby at_140 rfl rfl (str12 _ (oaload Xr12 hx hby at_145 rfl rfl (oacmp (pc := 147) Xr12 hx hby at_147 152 (same := true) rfl rfl (decide_eq_true rfl) (by decide) (oaload Xr12 hx hby at_152 rfl rfl (olload Xr12 hx hby at_154 rfl (onull Xr12 hx hby at_156 (str13 _ (oastore Xr13 hx hby at_160 (lc30 i0 i1 i2 i3 0 w1 (own_inward i1) (own_inward i2) (own_inward i3) br5 b3 b4 1 b4 (own_inward i2) b5) rfl rfl (oiload Xr13 hx hby at_162 rfl (olload Xr13 hx hby at_164 rfl (olload Xr13 hx hby at_166 rfl (str14 _ k))))))))))))))))) ?_
            have f54 : Exa Z Tr13.heap br5 zs2 := (f41.keep Kr13)
            obtain ⟨_, Tr15, Lr15, Xr15, hQr15, str15⟩ := ocallV Xr14 hx hZ zm2 zm2 hown (ww hw 27 rfl) (ww hw 28 rfl) (notFace_of_selects (args := #[]) (mvT hZ (ww hw 30 rfl))) (ww hw 30 rfl) (ww hw 29 rfl) (by decide) (ww hw 31 rfl) (ww hw 11 rfl) er14 f54 (rm4_24 l Z a0 hw [] br5 b1 b3 b5 b4 k1 Tr13.heap n0 Z_5 f46 f48 f43) (st := [(.ref br5)]) rfl 0 rfl (by decide) (pc := 185) (Ls := (lc31 i0 i1 i2 i3 0 w1 (own_inward i1) (own_inward i2) (own_inward i3) br5 b3 b4 1 b4 (own_inward i2) b5 b4)) hml rfl (lenOf pd_2 rfl) at_185 hby
            obtain ⟨rfl, Nr15q, er15⟩ := hQr15
            have N13 := Fr.app N12 Nr15q
            refine own_go (U' := Tr15.setTop (mkF m 198 (lc31 i0 i1 i2 i3 0 w1 (own_inward i1) (own_inward i2) (own_inward i3) br5 b3 b4 1 b4 (own_inward i2) b5 b4) [(.int 1)])) (fun t k => oifY (pc := 171) Xr14 hx hby at_171 179 (by decide) (by decide) (oaload Xr14 hx hby at_179 rfl rfl (oastore Xr14 hx hby at_181 (lc31 i0 i1 i2 i3 0 w1 (own_inward i1) (own_inward i2) (own_inward i3) br5 b3 b4 1 b4 (own_inward i2) b5 b4) rfl rfl (oaload Xr14 hx hby at_183 rfl rfl (str15 _ (oaload Xr15 hx hby at_188 rfl rfl (oacmp (pc := 190) Xr15 hx hby at_190 193 (same := true) rfl rfl (decide_eq_true rfl) (by decide) (oiconst Xr15 hx hby at_193 (ogoto (pc := 194) Xr15 hx hby at_194 198 (by decide) k))))))))) ?_
            obtain ⟨fs, hr, hrun, hended, hW, hsame⟩ := Xr15.leave (v := some (.int 1)) (fun h => by rw [Bd.returns] at h; cases h)
            refine own_out ⟨_, _, ?_, hrun, hended, _, _, rfl, ?_, ⟨_, rfl⟩, hW, hsame.mono (by decide) (by decide)⟩
            · exact retN Xr15 hx (t := .boolean) Bd.returns (by simp) (hb hby at_198) hr
            · exact ⟨rfl, N13⟩
        · have f43 : Exa Z Tr10.heap b3 zs1 := (f24.keep Kr10)
          by_cases hk18 : ((own_inward i1) ^^^ (-1 : Int64)) = ((own_inward i3) ^^^ (-1 : Int64))
          · have ne4 : br5 ≠ b3 := Nat.ne_of_lt (Nat.lt_of_lt_of_le (Nat.lt_of_lt_of_le (f1.lt) Kr6.1) sz3)
            have ne5 : b2 ≠ b3 := Nat.ne_of_lt (Nat.lt_of_lt_of_le (f13.lt) sz3)
            have ne6 : b1 ≠ b3 := Nat.ne_of_lt (Nat.lt_of_lt_of_le (f11.lt) sz3)
            have f44 : Fld Z Tr10.heap b3 zs1 "first" zs11 .null := (f27.keep Kr10 (ninS (Ne.symm ne6) (ninS (Ne.symm ne5) (ninS (Ne.symm ne4) nin0))))
            have hc31 : ¬ (((own_inward i2) ^^^ (-1 : Int64)) < ((own_inward i3) ^^^ (-1 : Int64))) := hk15
            have hc36 : ¬ (((own_inward i1) ^^^ (-1 : Int64)) < ((own_inward i3) ^^^ (-1 : Int64))) := hk16
            have hc27 : ¬ (((own_inward i3) ^^^ (-1 : Int64)) = (-9223372036854775808 : Int64)) := (fun e => by have := congrArg Int64.toInt e; have := own_inward_b i3; have := own_xnJ (own_inward i3); have := (by decide : ((-9223372036854775808 : Int64)).toInt = -9223372036854775808); omega)
            have hc28 : ¬ (((own_inward i3) ^^^ (-1 : Int64)) = (9223372036854775807 : Int64)) := (fun e => by have := congrArg Int64.toInt e; have := own_inward_b i3; have := own_xnJ (own_inward i3); have := (by decide : ((9223372036854775807 : Int64)).toInt = 9223372036854775807); omega)
            have hc37 : ((own_inward i1) ^^^ (-1 : Int64)) = ((own_inward i3) ^^^ (-1 : Int64)) := hk18
            obtain ⟨_, Tr13, Lr13, Xr13, hQr13, str13⟩ := ocallV Xr12 hx hZ zm7 zm7 hown (ww hw 34 rfl) (ww hw 35 rfl) (notFace_of_selects (args := #[]) (mvT hZ (ww hw 37 rfl))) (ww hw 37 rfl) (ww hw 36 rfl) (by decide) (ww hw 38 rfl) (ww hw 11 rfl) er12 f41 (rm5_68 l Z a0 hw [] br5 (own_inward i3) w1 w0 b2 ((own_inward i1) ^^^ (-1 : Int64)) ((own_inward i2) ^^^ (-1 : Int64)) k2 b1 b3 b4 k1 Tr10.heap n0 Z_4 f32 f42 ha20 f41 f33 f34 f31 hc31 hc36 hc27 hc28 hc37 f35 f30 f43 f44 f36 g1 (Ne.symm ne2)) (st := [.null, (.long (own_inward i3)), (.ref br5)]) rfl 0 rfl (by decide) (pc := 157) (Ls := (lc29 i0 i1 i2 i3 0 w1 (own_inward i1) (own_inward i2) (own_inward i3) br5 b3 b4 1 b4 (own_inward i2))) hml rfl (lenOf pd_6 rfl) at_157 hby
            obtain ⟨rfl, Nr13q, Kr13, f45, f46, f47, f48, f49⟩ := hQr13
            have N11 := Fr.app N10 Nr13q
            have Z_5 : n0 ≤ Tr13.heap.size := Nat.le_trans Z_4 Kr13.1
            have hc34 : ¬ ((own_inward i3) < (own_inward i2)) := (fun e => by have := Int64.lt_iff_toInt_lt.mp e; have : ¬ (((own_inward i2) ^^^ (-1 : Int64))).toInt < (((own_inward i3) ^^^ (-1 : Int64))).toInt := fun e => hk15 (Int64.lt_iff_toInt_lt.mpr e); have := own_inward_b i3; have := own_inward_b i2; have := own_xnJ (own_inward i2); have := own_xnJ (own_inward i3); omega)
            obtain ⟨_, Tr14, Lr14, Xr14, hQr14, str14⟩ := ocallS Xr13 hx hZ zm8 hown (ww hw 69 rfl) (ww hw 70 rfl) (by decide) (ww hw 71 rfl) (ww hw 5 rfl) rfl (rm10_62 l Z a0 hw [] (own_inward i3) (own_inward i2) Tr13.heap n0 Z_5 hc34) (st := [(.long (own_inward i2)), (.long (own_inward i3)), (.int 0)]) rfl 0 rfl (by decide) (pc := 168) (Ls := (lc30 i0 i1 i2 i3 0 w1 (own_inward i1) (own_inward i2) (own_inward i3) br5 b3 b4 1 b4 (own_inward i2) b3)) hml rfl (lenOf pd_7 rfl) at_168 hby
            obtain ⟨rfl, Nr14q, er14⟩ := hQr14
            have N12 := Fr.app N11 Nr14q
            refine own_go (U' := Tr14.setTop (mkF m 171 (lc30 i0 i1 i2 i3 0 w1 (own_inward i1) (own_inward i2) (own_inward i3) br5 b3 b4 1 b4 (own_inward i2) b3) [(.int 0)])) (fun t k => oifN Xr11 hx hby at_128 (by decide) (olload Xr11 hx hby at_131 rfl (ogoto (pc := 133) Xr11 hx hby at_133 138 (by decide) (olstore Xr11 hx hby at_138 (lc29 i0 i1 i2 i3 0 w1 (own_inward i1) (own_inward i2) (own_inward i3) br5 b3 b4 1 b4 (own_inward i2)) rfl (oaload Xr11 hx hby at_140 rfl rfl (str12 _ (oaload Xr12 hx hby at_145 rfl rfl (oacmp (pc := 147) Xr12 hx hby at_147 152 (same := true) rfl rfl (decide_eq_true rfl) (by decide) (oaload Xr12 hx hby at_152 rfl rfl (olload Xr12 hx hby at_154 rfl (onull Xr12 hx hby at_156 (str13 _ (oastore Xr13 hx hby at_160 (lc30 i0 i1 i2 i3 0 w1 (own_inward i1) (own_inward i2) (own_inward i3) br5 b3 b4 1 b4 (own_inward i2) b3) rfl rfl (oiload Xr13 hx hby at_162 rfl (olload Xr13 hx hby at_164 rfl (olload Xr13 hx hby at_166 rfl (str14 _ k))))))))))))))))) ?_
            have f50 : Exa Z Tr13.heap br5 zs2 := (f41.keep Kr13)
            have f51 : Arv Z Tr13.heap b1 k1 (.object zs1) (16 : Int32) [(.ref b3), (.ref b4)] .null := (f30.keep Kr13 (ninS (Ne.symm ne2) nin0))
            obtain ⟨_, Tr15, Lr15, Xr15, hQr15, str15⟩ := ocallV Xr14 hx hZ zm2 zm2 hown (ww hw 27 rfl) (ww hw 28 rfl) (notFace_of_selects (args := #[]) (mvT hZ (ww hw 30 rfl))) (ww hw 30 rfl) (ww hw 29 rfl) (by decide) (ww hw 31 rfl) (ww hw 11 rfl) er14 f50 (rm4_19 l Z a0 hw [] br5 b1 b3 b4 k1 Tr13.heap n0 Z_5 f46 f48 f51) (st := [(.ref br5)]) rfl 0 rfl (by decide) (pc := 185) (Ls := (lc31 i0 i1 i2 i3 0 w1 (own_inward i1) (own_inward i2) (own_inward i3) br5 b3 b4 1 b4 (own_inward i2) b3 b4)) hml rfl (lenOf pd_2 rfl) at_185 hby
            obtain ⟨rfl, Nr15q, er15⟩ := hQr15
            have N13 := Fr.app N12 Nr15q
            refine own_go (U' := Tr15.setTop (mkF m 198 (lc31 i0 i1 i2 i3 0 w1 (own_inward i1) (own_inward i2) (own_inward i3) br5 b3 b4 1 b4 (own_inward i2) b3 b4) [(.int 1)])) (fun t k => oifY (pc := 171) Xr14 hx hby at_171 179 (by decide) (by decide) (oaload Xr14 hx hby at_179 rfl rfl (oastore Xr14 hx hby at_181 (lc31 i0 i1 i2 i3 0 w1 (own_inward i1) (own_inward i2) (own_inward i3) br5 b3 b4 1 b4 (own_inward i2) b3 b4) rfl rfl (oaload Xr14 hx hby at_183 rfl rfl (str15 _ (oaload Xr15 hx hby at_188 rfl rfl (oacmp (pc := 190) Xr15 hx hby at_190 193 (same := true) rfl rfl (decide_eq_true rfl) (by decide) (oiconst Xr15 hx hby at_193 (ogoto (pc := 194) Xr15 hx hby at_194 198 (by decide) k))))))))) ?_
            obtain ⟨fs, hr, hrun, hended, hW, hsame⟩ := Xr15.leave (v := some (.int 1)) (fun h => by rw [Bd.returns] at h; cases h)
            refine own_out ⟨_, _, ?_, hrun, hended, _, _, rfl, ?_, ⟨_, rfl⟩, hW, hsame.mono (by decide) (by decide)⟩
            · exact retN Xr15 hx (t := .boolean) Bd.returns (by simp) (hb hby at_198) hr
            · exact ⟨rfl, N13⟩
          · have hc31 : ¬ (((own_inward i2) ^^^ (-1 : Int64)) < ((own_inward i3) ^^^ (-1 : Int64))) := hk15
            have hc36 : ¬ (((own_inward i1) ^^^ (-1 : Int64)) < ((own_inward i3) ^^^ (-1 : Int64))) := hk16
            have hc27 : ¬ (((own_inward i3) ^^^ (-1 : Int64)) = (-9223372036854775808 : Int64)) := (fun e => by have := congrArg Int64.toInt e; have := own_inward_b i3; have := own_xnJ (own_inward i3); have := (by decide : ((-9223372036854775808 : Int64)).toInt = -9223372036854775808); omega)
            have hc28 : ¬ (((own_inward i3) ^^^ (-1 : Int64)) = (9223372036854775807 : Int64)) := (fun e => by have := congrArg Int64.toInt e; have := own_inward_b i3; have := own_xnJ (own_inward i3); have := (by decide : ((9223372036854775807 : Int64)).toInt = 9223372036854775807); omega)
            have hc38 : ¬ (((own_inward i1) ^^^ (-1 : Int64)) = ((own_inward i3) ^^^ (-1 : Int64))) := hk18
            obtain ⟨_, Tr13, Lr13, Xr13, hQr13, str13⟩ := ocallV Xr12 hx hZ zm7 zm7 hown (ww hw 34 rfl) (ww hw 35 rfl) (notFace_of_selects (args := #[]) (mvT hZ (ww hw 37 rfl))) (ww hw 37 rfl) (ww hw 36 rfl) (by decide) (ww hw 38 rfl) (ww hw 11 rfl) er12 f41 (rm5_71 l Z a0 hw [] br5 (own_inward i3) w1 w0 b2 ((own_inward i1) ^^^ (-1 : Int64)) ((own_inward i2) ^^^ (-1 : Int64)) k2 b1 b3 b4 k1 Tr10.heap n0 Z_4 f32 f42 ha20 f41 f33 f34 f31 hc31 hc36 hc27 hc28 hc38 f35 f30 g2 O1 f37 f43 ne2 (Ne.symm ne1) g3 ne3 f36 g1) (st := [.null, (.long (own_inward i3)), (.ref br5)]) rfl 0 rfl (by decide) (pc := 157) (Ls := (lc29 i0 i1 i2 i3 0 w1 (own_inward i1) (own_inward i2) (own_inward i3) br5 b3 b4 1 b4 (own_inward i2))) hml rfl (lenOf pd_6 rfl) at_157 hby
            obtain ⟨b5, rfl, Nr13q, Kr13, sz5, f44, f45, f46, f47, f48, f49, f50, f51, f52, f53, f54⟩ := hQr13
            have N11 := Fr.app N10 Nr13q
            have Z_5 : n0 ≤ Tr13.heap.size := Nat.le_trans Z_4 Kr13.1
            have hc34 : ¬ ((own_inward i3) < (own_inward i2)) := (fun e => by have := Int64.lt_iff_toInt_lt.mp e; have : ¬ (((own_inward i2) ^^^ (-1 : Int64))).toInt < (((own_inward i3) ^^^ (-1 : Int64))).toInt := fun e => hk15 (Int64.lt_iff_toInt_lt.mpr e); have := own_inward_b i3; have := own_inward_b i2; have := own_xnJ (own_inward i2); have := own_xnJ (own_inward i3); omega)
            obtain ⟨_, Tr14, Lr14, Xr14, hQr14, str14⟩ := ocallS Xr13 hx hZ zm8 hown (ww hw 69 rfl) (ww hw 70 rfl) (by decide) (ww hw 71 rfl) (ww hw 5 rfl) rfl (rm10_62 l Z a0 hw [] (own_inward i3) (own_inward i2) Tr13.heap n0 Z_5 hc34) (st := [(.long (own_inward i2)), (.long (own_inward i3)), (.int 0)]) rfl 0 rfl (by decide) (pc := 168) (Ls := (lc30 i0 i1 i2 i3 0 w1 (own_inward i1) (own_inward i2) (own_inward i3) br5 b3 b4 1 b4 (own_inward i2) b5)) hml rfl (lenOf pd_7 rfl) at_168 hby
            obtain ⟨rfl, Nr14q, er14⟩ := hQr14
            have N12 := Fr.app N11 Nr14q
            refine own_go (U' := Tr14.setTop (mkF m 171 (lc30 i0 i1 i2 i3 0 w1 (own_inward i1) (own_inward i2) (own_inward i3) br5 b3 b4 1 b4 (own_inward i2) b5) [(.int 0)])) (fun t k => oifN Xr11 hx hby at_128 (by decide) (olload Xr11 hx hby at_131 rfl (ogoto (pc := 133) Xr11 hx hby at_133 138 (by decide) (olstore Xr11 hx hby at_138 (lc29 i0 i1 i2 i3 0 w1 (own_inward i1) (own_inward i2) (own_inward i3) br5 b3 b4 1 b4 (own_inward i2)) rfl (oaload Xr11 hx hby at_140 rfl rfl (str12 _ (oaload Xr12 hx hby at_145 rfl rfl (oacmp (pc := 147) Xr12 hx hby at_147 152 (same := true) rfl rfl (decide_eq_true rfl) (by decide) (oaload Xr12 hx hby at_152 rfl rfl (olload Xr12 hx hby at_154 rfl (onull Xr12 hx hby at_156 (str13 _ (oastore Xr13 hx hby at_160 (lc30 i0 i1 i2 i3 0 w1 (own_inward i1) (own_inward i2) (own_inward i3) br5 b3 b4 1 b4 (own_inward i2) b5) rfl rfl (oiload Xr13 hx hby at_162 rfl (olload Xr13 hx hby at_164 rfl (olload Xr13 hx hby at_166 rfl (str14 _ k))))))))))))))))) ?_
            have f55 : Exa Z Tr13.heap br5 zs2 := (f41.keep Kr13)
            obtain ⟨_, Tr15, Lr15, Xr15, hQr15, str15⟩ := ocallV Xr14 hx hZ zm2 zm2 hown (ww hw 27 rfl) (ww hw 28 rfl) (notFace_of_selects (args := #[]) (mvT hZ (ww hw 30 rfl))) (ww hw 30 rfl) (ww hw 29 rfl) (by decide) (ww hw 31 rfl) (ww hw 11 rfl) er14 f55 (rm4_24 l Z a0 hw [] br5 b1 b5 b3 b4 k1 Tr13.heap n0 Z_5 f47 f49 f44) (st := [(.ref br5)]) rfl 0 rfl (by decide) (pc := 185) (Ls := (lc31 i0 i1 i2 i3 0 w1 (own_inward i1) (own_inward i2) (own_inward i3) br5 b3 b4 1 b4 (own_inward i2) b5 b4)) hml rfl (lenOf pd_2 rfl) at_185 hby
            obtain ⟨rfl, Nr15q, er15⟩ := hQr15
            have N13 := Fr.app N12 Nr15q
            refine own_go (U' := Tr15.setTop (mkF m 198 (lc31 i0 i1 i2 i3 0 w1 (own_inward i1) (own_inward i2) (own_inward i3) br5 b3 b4 1 b4 (own_inward i2) b5 b4) [(.int 1)])) (fun t k => oifY (pc := 171) Xr14 hx hby at_171 179 (by decide) (by decide) (oaload Xr14 hx hby at_179 rfl rfl (oastore Xr14 hx hby at_181 (lc31 i0 i1 i2 i3 0 w1 (own_inward i1) (own_inward i2) (own_inward i3) br5 b3 b4 1 b4 (own_inward i2) b5 b4) rfl rfl (oaload Xr14 hx hby at_183 rfl rfl (str15 _ (oaload Xr15 hx hby at_188 rfl rfl (oacmp (pc := 190) Xr15 hx hby at_190 193 (same := true) rfl rfl (decide_eq_true rfl) (by decide) (oiconst Xr15 hx hby at_193 (ogoto (pc := 194) Xr15 hx hby at_194 198 (by decide) k))))))))) ?_
            obtain ⟨fs, hr, hrun, hended, hW, hsame⟩ := Xr15.leave (v := some (.int 1)) (fun h => by rw [Bd.returns] at h; cases h)
            refine own_out ⟨_, _, ?_, hrun, hended, _, _, rfl, ?_, ⟨_, rfl⟩, hW, hsame.mono (by decide) (by decide)⟩
            · exact retN Xr15 hx (t := .boolean) Bd.returns (by simp) (hb hby at_198) hr
            · exact ⟨rfl, N13⟩
    · have hc39 : ¬ (((own_inward i1) ^^^ (-1 : Int64)) < ((own_inward i2) ^^^ (-1 : Int64))) := hk14
      have hc23 : ¬ (((own_inward i2) ^^^ (-1 : Int64)) = (-9223372036854775808 : Int64)) := (fun e => by have := congrArg Int64.toInt e; have := own_inward_b i2; have := own_xnJ (own_inward i2); have := (by decide : ((-9223372036854775808 : Int64)).toInt = -9223372036854775808); omega)
      have hc24 : ¬ (((own_inward i2) ^^^ (-1 : Int64)) = (9223372036854775807 : Int64)) := (fun e => by have := congrArg Int64.toInt e; have := own_inward_b i2; have := own_xnJ (own_inward i2); have := (by decide : ((9223372036854775807 : Int64)).toInt = 9223372036854775807); omega)
      by_cases hk19 : ((own_inward i1) ^^^ (-1 : Int64)) = ((own_inward i2) ^^^ (-1 : Int64))
      · have hc40 : ((own_inward i1) ^^^ (-1 : Int64)) = ((own_inward i2) ^^^ (-1 : Int64)) := hk19
        obtain ⟨_, Tr10, Lr10, Xr10, hQr10, str10⟩ := ocallV Xr9 hx hZ zm7 zm7 hown (ww hw 34 rfl) (ww hw 35 rfl) (notFace_of_selects (args := #[]) (mvT hZ (ww hw 37 rfl))) (ww hw 37 rfl) (ww hw 36 rfl) (by decide) (ww hw 38 rfl) (ww hw 11 rfl) er9 f28 (rm5_74 l Z a0 hw [] br5 (own_inward i2) w1 w0 b2 ((own_inward i1) ^^^ (-1 : Int64)) k2 b1 b3 k1 Tr8.heap n0 Z_3 f19 f29 ha20 f28 f20 f22 f18 hc39 hc23 hc24 hc40 f21 f17 f24 f27 f23 g1 (Ne.symm ne2)) (st := [.null, (.long (own_inward i2)), (.ref br5)]) rfl 0 rfl (by decide) (pc := 96) (Ls := (lc24 i0 i1 i2 i3 0 w1 (own_inward i1) (own_inward i2) (own_inward i3) br5 b3)) hml rfl (lenOf pd_6 rfl) at_96 hby
        obtain ⟨rfl, Nr10q, Kr10, f30, f31, f32, f33, f34⟩ := hQr10
        have N8 := Fr.app N7 Nr10q
        have Z_4 : n0 ≤ Tr10.heap.size := Nat.le_trans Z_3 Kr10.1
        have hc41 : ¬ ((own_inward i2) < (own_inward i1)) := (fun e => by have := Int64.lt_iff_toInt_lt.mp e; have : ¬ (((own_inward i1) ^^^ (-1 : Int64))).toInt < (((own_inward i2) ^^^ (-1 : Int64))).toInt := fun e => hk14 (Int64.lt_iff_toInt_lt.mpr e); have := own_inward_b i2; have := own_inward_b i1; have := own_xnJ (own_inward i1); have := own_xnJ (own_inward i2); omega)
        obtain ⟨_, Tr11, Lr11, Xr11, hQr11, str11⟩ := ocallS Xr10 hx hZ zm8 hown (ww hw 69 rfl) (ww hw 70 rfl) (by decide) (ww hw 71 rfl) (ww hw 5 rfl) rfl (rm10_62 l Z a0 hw [] (own_inward i2) (own_inward i1) Tr10.heap n0 Z_4 hc41) (st := [(.long (own_inward i1)), (.long (own_inward i2)), (.int 0)]) rfl 0 rfl (by decide) (pc := 107) (Ls := (lc25 i0 i1 i2 i3 0 w1 (own_inward i1) (own_inward i2) (own_inward i3) br5 b3 b3)) hml rfl (lenOf pd_7 rfl) at_107 hby
        obtain ⟨rfl, Nr11q, er11⟩ := hQr11
        have N9 := Fr.app N8 Nr11q
        refine own_go (U' := Tr11.setTop (mkF m 114 (lc27 i0 i1 i2 i3 0 w1 (own_inward i1) (own_inward i2) (own_inward i3) br5 b3 b3 0) [(.int 0)])) (fun t k => oifY (pc := 15) X0 hx hby at_15 24 (by decide) (by decide) (str1 _ (oastore Xr1 hx hby at_27 (lc2 i0 i1 i2 i3 0 w1) rfl rfl (olloadN Xr1 hx hby at_29 rfl (str2 _ (olstore Xr2 hx hby at_33 (lc4 i0 i1 i2 i3 0 w1 (own_inward i1)) rfl (olloadN Xr2 hx hby at_35 rfl (str3 _ (olstore Xr3 hx hby at_39 (lc5 i0 i1 i2 i3 0 w1 (own_inward i1) (own_inward i2)) rfl (olload Xr3 hx hby at_41 rfl (str4 _ (olstore Xr4 hx hby at_46 (lc6 i0 i1 i2 i3 0 w1 (own_inward i1) (own_inward i2) (own_inward i3)) rfl (str5 _ (odup Xr5 hx hby at_51 rfl (oaload Xr5 hx hby at_52 rfl rfl (str6 _ (oastore Xr6 hx hby at_57 (lc8 i0 i1 i2 i3 0 w1 (own_inward i1) (own_inward i2) (own_inward i3) br5) rfl rfl (oaload Xr6 hx hby at_59 rfl rfl (str7 _ (onlY (pc := 64) Xr7 hx hby at_64 69 (by decide) (oaload Xr7 hx hby at_69 rfl rfl (olload Xr7 hx hby at_71 rfl (onull Xr7 hx hby at_73 (str8 _ (oastore Xr8 hx hby at_77 (lc24 i0 i1 i2 i3 0 w1 (own_inward i1) (own_inward i2) (own_inward i3) br5 b3) rfl rfl (oaload Xr8 hx hby at_79 rfl rfl (str9 _ (oaload Xr9 hx hby at_84 rfl rfl (oacmp (pc := 86) Xr9 hx hby at_86 91 (same := true) rfl rfl (decide_eq_true rfl) (by decide) (oaload Xr9 hx hby at_91 rfl rfl (olload Xr9 hx hby at_93 rfl (onull Xr9 hx hby at_95 (str10 _ (oastore Xr10 hx hby at_99 (lc25 i0 i1 i2 i3 0 w1 (own_inward i1) (own_inward i2) (own_inward i3) br5 b3 b3) rfl rfl (oiload Xr10 hx hby at_101 rfl (olload Xr10 hx hby at_103 rfl (olload Xr10 hx hby at_105 rfl (str11 _ (oistore Xr11 hx hby at_110 (lc27 i0 i1 i2 i3 0 w1 (own_inward i1) (own_inward i2) (own_inward i3) br5 b3 b3 0) rfl (oiload Xr11 hx hby at_112 rfl k)))))))))))))))))))))))))))))))))))))))) ?_
        refine own_go (U' := Tr11.setTop (mkF m 128 (lc28 i0 i1 i2 i3 0 w1 (own_inward i1) (own_inward i2) (own_inward i3) br5 b3 b3 0 b3) [(.int 0)])) (fun t k => oifY (pc := 114) Xr11 hx hby at_114 122 (by decide) (by decide) (oaload Xr11 hx hby at_122 rfl rfl (oastore Xr11 hx hby at_124 (lc28 i0 i1 i2 i3 0 w1 (own_inward i1) (own_inward i2) (own_inward i3) br5 b3 b3 0 b3) rfl rfl (oiload Xr11 hx hby at_126 rfl k)))) ?_
        have f35 : Exa Z Tr10.heap br5 zs2 := (f28.keep Kr10)
        have f36 : Arv Z Tr10.heap b1 k1 (.object zs1) (16 : Int32) [(.ref b3)] .null := (f17.keep Kr10 (ninS (Ne.symm ne2) nin0))
        obtain ⟨_, Tr12, Lr12, Xr12, hQr12, str12⟩ := ocallV Xr11 hx hZ zm2 zm2 hown (ww hw 27 rfl) (ww hw 28 rfl) (notFace_of_selects (args := #[]) (mvT hZ (ww hw 30 rfl))) (ww hw 30 rfl) (ww hw 29 rfl) (by decide) (ww hw 31 rfl) (ww hw 11 rfl) er11 f35 (rm4_12 l Z a0 hw [] br5 b1 b3 k1 Tr10.heap n0 Z_4 f31 f33 f36) (st := [(.ref br5)]) rfl 0 rfl (by decide) (pc := 142) (Ls := (lc29 i0 i1 i2 i3 0 w1 (own_inward i1) (own_inward i2) (own_inward i3) br5 b3 b3 0 b3 (own_inward i1))) hml rfl (lenOf pd_2 rfl) at_142 hby
        obtain ⟨rfl, Nr12q, er12⟩ := hQr12
        have N10 := Fr.app N9 Nr12q
        have f37 : Sta Z Tr10.heap zs6 "BUY" zs4 (.ref w0) := (own_staK f29 Kr10 (allS (own_nsE ((Ar5.keep Kr6).keep Kr8)) all0))
        have f38 : Arv Z Tr10.heap b2 k2 .long (16 : Int32) [(.long ((own_inward i1) ^^^ (-1 : Int64)))] (.long (0 : Int64)) := (f18.keep Kr10 (ninS (Ne.symm ne3) nin0))
        by_cases hk20 : ((own_inward i1) ^^^ (-1 : Int64)) < ((own_inward i3) ^^^ (-1 : Int64))
        · have hc32 : ((own_inward i1) ^^^ (-1 : Int64)) < ((own_inward i3) ^^^ (-1 : Int64)) := hk20
          have hc27 : ¬ (((own_inward i3) ^^^ (-1 : Int64)) = (-9223372036854775808 : Int64)) := (fun e => by have := congrArg Int64.toInt e; have := own_inward_b i3; have := own_xnJ (own_inward i3); have := (by decide : ((-9223372036854775808 : Int64)).toInt = -9223372036854775808); omega)
          have hc28 : ¬ (((own_inward i3) ^^^ (-1 : Int64)) = (9223372036854775807 : Int64)) := (fun e => by have := congrArg Int64.toInt e; have := own_inward_b i3; have := own_xnJ (own_inward i3); have := (by decide : ((9223372036854775807 : Int64)).toInt = 9223372036854775807); omega)
          obtain ⟨_, Tr13, Lr13, Xr13, hQr13, str13⟩ := ocallV Xr12 hx hZ zm7 zm7 hown (ww hw 34 rfl) (ww hw 35 rfl) (notFace_of_selects (args := #[]) (mvT hZ (ww hw 37 rfl))) (ww hw 37 rfl) (ww hw 36 rfl) (by decide) (ww hw 38 rfl) (ww hw 11 rfl) er12 f35 (rm5_75 l Z a0 hw [] br5 (own_inward i3) w1 w0 b2 ((own_inward i1) ^^^ (-1 : Int64)) k2 b1 b3 k1 Tr10.heap n0 Z_4 f30 f37 ha20 f35 f31 f32 f38 hc32 hc27 hc28 f33 f36 g2 O1 ne2 (Ne.symm ne1) g3 ne3 f34 g1) (st := [.null, (.long (own_inward i3)), (.ref br5)]) rfl 0 rfl (by decide) (pc := 157) (Ls := (lc29 i0 i1 i2 i3 0 w1 (own_inward i1) (own_inward i2) (own_inward i3) br5 b3 b3 0 b3 (own_inward i1))) hml rfl (lenOf pd_6 rfl) at_157 hby
          obtain ⟨b4, rfl, Nr13q, Kr13, sz4, f39, f40, f41, f42, f43, f44, f45, f46, f47, f48, f49⟩ := hQr13
          have N11 := Fr.app N10 Nr13q
          have Z_5 : n0 ≤ Tr13.heap.size := Nat.le_trans Z_4 Kr13.1
          have hc42 : (own_inward i3) < (own_inward i1) := (Int64.lt_iff_toInt_lt.mpr (by have := Int64.lt_iff_toInt_lt.mp hk20; have := own_inward_b i3; have := own_inward_b i1; have := own_xnJ (own_inward i1); have := own_xnJ (own_inward i3); omega))
          obtain ⟨_, Tr14, Lr14, Xr14, hQr14, str14⟩ := ocallS Xr13 hx hZ zm8 hown (ww hw 69 rfl) (ww hw 70 rfl) (by decide) (ww hw 71 rfl) (ww hw 5 rfl) rfl (rm10_55 l Z a0 hw [] (own_inward i3) (own_inward i1) Tr13.heap n0 Z_5 hc42) (st := [(.long (own_inward i1)), (.long (own_inward i3)), (.int 0)]) rfl 0 rfl (by decide) (pc := 168) (Ls := (lc30 i0 i1 i2 i3 0 w1 (own_inward i1) (own_inward i2) (own_inward i3) br5 b3 b3 0 b3 (own_inward i1) b4)) hml rfl (lenOf pd_7 rfl) at_168 hby
          obtain ⟨rfl, Nr14q, er14⟩ := hQr14
          have N12 := Fr.app N11 Nr14q
          refine own_go (U' := Tr14.setTop (mkF m 171 (lc30 i0 i1 i2 i3 0 w1 (own_inward i1) (own_inward i2) (own_inward i3) br5 b3 b3 0 b3 (own_inward i1) b4) [(.int 1)])) (fun t k => oifY (pc := 128) Xr11 hx hby at_128 136 (by decide) (by decide) (olload Xr11 hx hby at_136 rfl (olstore Xr11 hx hby at_138 (lc29 i0 i1 i2 i3 0 w1 (own_inward i1) (own_inward i2) (own_inward i3) br5 b3 b3 0 b3 (own_inward i1)) rfl (oaload Xr11 hx hby at_140 rfl rfl (str12 _ (oaload Xr12 hx hby at_145 rfl rfl (oacmp (pc := 147) Xr12 hx hby at_147 152 (same := true) rfl rfl (decide_eq_true rfl) (by decide) (oaload Xr12 hx hby at_152 rfl rfl (olload Xr12 hx hby at_154 rfl (onull Xr12 hx hby at_156 (str13 _ (oastore Xr13 hx hby at_160 (lc30 i0 i1 i2 i3 0 w1 (own_inward i1) (own_inward i2) (own_inward i3) br5 b3 b3 0 b3 (own_inward i1) b4) rfl rfl (oiload Xr13 hx hby at_162 rfl (olload Xr13 hx hby at_164 rfl (olload Xr13 hx hby at_166 rfl (str14 _ k)))))))))))))))) ?_
          have f50 : Exa Z Tr13.heap br5 zs2 := (f35.keep Kr13)
          obtain ⟨_, Tr15, Lr15, Xr15, hQr15, str15⟩ := ocallV Xr14 hx hZ zm2 zm2 hown (ww hw 27 rfl) (ww hw 28 rfl) (notFace_of_selects (args := #[]) (mvT hZ (ww hw 30 rfl))) (ww hw 30 rfl) (ww hw 29 rfl) (by decide) (ww hw 31 rfl) (ww hw 11 rfl) er14 f50 (rm4_19 l Z a0 hw [] br5 b1 b3 b4 k1 Tr13.heap n0 Z_5 f42 f44 f39) (st := [(.ref br5)]) rfl 0 rfl (by decide) (pc := 185) (Ls := (lc31 i0 i1 i2 i3 0 w1 (own_inward i1) (own_inward i2) (own_inward i3) br5 b3 b3 0 b3 (own_inward i1) b4 b4)) hml rfl (lenOf pd_2 rfl) at_185 hby
          obtain ⟨rfl, Nr15q, er15⟩ := hQr15
          have N13 := Fr.app N12 Nr15q
          refine own_go (U' := Tr15.setTop (mkF m 198 (lc31 i0 i1 i2 i3 0 w1 (own_inward i1) (own_inward i2) (own_inward i3) br5 b3 b3 0 b3 (own_inward i1) b4 b4) [(.int 1)])) (fun t k => oifN Xr14 hx hby at_171 (by decide) (oaload Xr14 hx hby at_174 rfl rfl (ogoto (pc := 176) Xr14 hx hby at_176 181 (by decide) (oastore Xr14 hx hby at_181 (lc31 i0 i1 i2 i3 0 w1 (own_inward i1) (own_inward i2) (own_inward i3) br5 b3 b3 0 b3 (own_inward i1) b4 b4) rfl rfl (oaload Xr14 hx hby at_183 rfl rfl (str15 _ (oaload Xr15 hx hby at_188 rfl rfl (oacmp (pc := 190) Xr15 hx hby at_190 193 (same := true) rfl rfl (decide_eq_true rfl) (by decide) (oiconst Xr15 hx hby at_193 (ogoto (pc := 194) Xr15 hx hby at_194 198 (by decide) k)))))))))) ?_
          obtain ⟨fs, hr, hrun, hended, hW, hsame⟩ := Xr15.leave (v := some (.int 1)) (fun h => by rw [Bd.returns] at h; cases h)
          refine own_out ⟨_, _, ?_, hrun, hended, _, _, rfl, ?_, ⟨_, rfl⟩, hW, hsame.mono (by decide) (by decide)⟩
          · exact retN Xr15 hx (t := .boolean) Bd.returns (by simp) (hb hby at_198) hr
          · exact ⟨rfl, N13⟩
        · have f39 : Exa Z Tr10.heap b3 zs1 := (f24.keep Kr10)
          by_cases hk21 : ((own_inward i1) ^^^ (-1 : Int64)) = ((own_inward i3) ^^^ (-1 : Int64))
          · have ne4 : br5 ≠ b3 := Nat.ne_of_lt (Nat.lt_of_lt_of_le (Nat.lt_of_lt_of_le (f1.lt) Kr6.1) sz3)
            have f40 : Fld Z Tr10.heap b3 zs1 "first" zs11 .null := (f27.keep Kr10 (ninS (Ne.symm ne4) nin0))
            have hc36 : ¬ (((own_inward i1) ^^^ (-1 : Int64)) < ((own_inward i3) ^^^ (-1 : Int64))) := hk20
            have hc27 : ¬ (((own_inward i3) ^^^ (-1 : Int64)) = (-9223372036854775808 : Int64)) := (fun e => by have := congrArg Int64.toInt e; have := own_inward_b i3; have := own_xnJ (own_inward i3); have := (by decide : ((-9223372036854775808 : Int64)).toInt = -9223372036854775808); omega)
            have hc28 : ¬ (((own_inward i3) ^^^ (-1 : Int64)) = (9223372036854775807 : Int64)) := (fun e => by have := congrArg Int64.toInt e; have := own_inward_b i3; have := own_xnJ (own_inward i3); have := (by decide : ((9223372036854775807 : Int64)).toInt = 9223372036854775807); omega)
            have hc37 : ((own_inward i1) ^^^ (-1 : Int64)) = ((own_inward i3) ^^^ (-1 : Int64)) := hk21
            obtain ⟨_, Tr13, Lr13, Xr13, hQr13, str13⟩ := ocallV Xr12 hx hZ zm7 zm7 hown (ww hw 34 rfl) (ww hw 35 rfl) (notFace_of_selects (args := #[]) (mvT hZ (ww hw 37 rfl))) (ww hw 37 rfl) (ww hw 36 rfl) (by decide) (ww hw 38 rfl) (ww hw 11 rfl) er12 f35 (rm5_76 l Z a0 hw [] br5 (own_inward i3) w1 w0 b2 ((own_inward i1) ^^^ (-1 : Int64)) k2 b1 b3 k1 Tr10.heap n0 Z_4 f30 f37 ha20 f35 f31 f32 f38 hc36 hc27 hc28 hc37 f33 f36 f39 f40 f34 g1 (Ne.symm ne2)) (st := [.null, (.long (own_inward i3)), (.ref br5)]) rfl 0 rfl (by decide) (pc := 157) (Ls := (lc29 i0 i1 i2 i3 0 w1 (own_inward i1) (own_inward i2) (own_inward i3) br5 b3 b3 0 b3 (own_inward i1))) hml rfl (lenOf pd_6 rfl) at_157 hby
            obtain ⟨rfl, Nr13q, Kr13, f41, f42, f43, f44, f45⟩ := hQr13
            have N11 := Fr.app N10 Nr13q
            have Z_5 : n0 ≤ Tr13.heap.size := Nat.le_trans Z_4 Kr13.1
            have hc43 : ¬ ((own_inward i3) < (own_inward i1)) := (fun e => by have := Int64.lt_iff_toInt_lt.mp e; have : ¬ (((own_inward i1) ^^^ (-1 : Int64))).toInt < (((own_inward i3) ^^^ (-1 : Int64))).toInt := fun e => hk20 (Int64.lt_iff_toInt_lt.mpr e); have := own_inward_b i3; have := own_inward_b i1; have := own_xnJ (own_inward i1); have := own_xnJ (own_inward i3); omega)
            obtain ⟨_, Tr14, Lr14, Xr14, hQr14, str14⟩ := ocallS Xr13 hx hZ zm8 hown (ww hw 69 rfl) (ww hw 70 rfl) (by decide) (ww hw 71 rfl) (ww hw 5 rfl) rfl (rm10_62 l Z a0 hw [] (own_inward i3) (own_inward i1) Tr13.heap n0 Z_5 hc43) (st := [(.long (own_inward i1)), (.long (own_inward i3)), (.int 0)]) rfl 0 rfl (by decide) (pc := 168) (Ls := (lc30 i0 i1 i2 i3 0 w1 (own_inward i1) (own_inward i2) (own_inward i3) br5 b3 b3 0 b3 (own_inward i1) b3)) hml rfl (lenOf pd_7 rfl) at_168 hby
            obtain ⟨rfl, Nr14q, er14⟩ := hQr14
            have N12 := Fr.app N11 Nr14q
            refine own_go (U' := Tr14.setTop (mkF m 171 (lc30 i0 i1 i2 i3 0 w1 (own_inward i1) (own_inward i2) (own_inward i3) br5 b3 b3 0 b3 (own_inward i1) b3) [(.int 0)])) (fun t k => oifY (pc := 128) Xr11 hx hby at_128 136 (by decide) (by decide) (olload Xr11 hx hby at_136 rfl (olstore Xr11 hx hby at_138 (lc29 i0 i1 i2 i3 0 w1 (own_inward i1) (own_inward i2) (own_inward i3) br5 b3 b3 0 b3 (own_inward i1)) rfl (oaload Xr11 hx hby at_140 rfl rfl (str12 _ (oaload Xr12 hx hby at_145 rfl rfl (oacmp (pc := 147) Xr12 hx hby at_147 152 (same := true) rfl rfl (decide_eq_true rfl) (by decide) (oaload Xr12 hx hby at_152 rfl rfl (olload Xr12 hx hby at_154 rfl (onull Xr12 hx hby at_156 (str13 _ (oastore Xr13 hx hby at_160 (lc30 i0 i1 i2 i3 0 w1 (own_inward i1) (own_inward i2) (own_inward i3) br5 b3 b3 0 b3 (own_inward i1) b3) rfl rfl (oiload Xr13 hx hby at_162 rfl (olload Xr13 hx hby at_164 rfl (olload Xr13 hx hby at_166 rfl (str14 _ k)))))))))))))))) ?_
            have f46 : Exa Z Tr13.heap br5 zs2 := (f35.keep Kr13)
            have f47 : Arv Z Tr13.heap b1 k1 (.object zs1) (16 : Int32) [(.ref b3)] .null := (f36.keep Kr13 (ninS (Ne.symm ne2) nin0))
            obtain ⟨_, Tr15, Lr15, Xr15, hQr15, str15⟩ := ocallV Xr14 hx hZ zm2 zm2 hown (ww hw 27 rfl) (ww hw 28 rfl) (notFace_of_selects (args := #[]) (mvT hZ (ww hw 30 rfl))) (ww hw 30 rfl) (ww hw 29 rfl) (by decide) (ww hw 31 rfl) (ww hw 11 rfl) er14 f46 (rm4_12 l Z a0 hw [] br5 b1 b3 k1 Tr13.heap n0 Z_5 f42 f44 f47) (st := [(.ref br5)]) rfl 0 rfl (by decide) (pc := 185) (Ls := (lc31 i0 i1 i2 i3 0 w1 (own_inward i1) (own_inward i2) (own_inward i3) br5 b3 b3 0 b3 (own_inward i1) b3 b3)) hml rfl (lenOf pd_2 rfl) at_185 hby
            obtain ⟨rfl, Nr15q, er15⟩ := hQr15
            have N13 := Fr.app N12 Nr15q
            refine own_go (U' := Tr15.setTop (mkF m 198 (lc31 i0 i1 i2 i3 0 w1 (own_inward i1) (own_inward i2) (own_inward i3) br5 b3 b3 0 b3 (own_inward i1) b3 b3) [(.int 1)])) (fun t k => oifY (pc := 171) Xr14 hx hby at_171 179 (by decide) (by decide) (oaload Xr14 hx hby at_179 rfl rfl (oastore Xr14 hx hby at_181 (lc31 i0 i1 i2 i3 0 w1 (own_inward i1) (own_inward i2) (own_inward i3) br5 b3 b3 0 b3 (own_inward i1) b3 b3) rfl rfl (oaload Xr14 hx hby at_183 rfl rfl (str15 _ (oaload Xr15 hx hby at_188 rfl rfl (oacmp (pc := 190) Xr15 hx hby at_190 193 (same := true) rfl rfl (decide_eq_true rfl) (by decide) (oiconst Xr15 hx hby at_193 (ogoto (pc := 194) Xr15 hx hby at_194 198 (by decide) k))))))))) ?_
            obtain ⟨fs, hr, hrun, hended, hW, hsame⟩ := Xr15.leave (v := some (.int 1)) (fun h => by rw [Bd.returns] at h; cases h)
            refine own_out ⟨_, _, ?_, hrun, hended, _, _, rfl, ?_, ⟨_, rfl⟩, hW, hsame.mono (by decide) (by decide)⟩
            · exact retN Xr15 hx (t := .boolean) Bd.returns (by simp) (hb hby at_198) hr
            · exact ⟨rfl, N13⟩
          · have hc36 : ¬ (((own_inward i1) ^^^ (-1 : Int64)) < ((own_inward i3) ^^^ (-1 : Int64))) := hk20
            have hc27 : ¬ (((own_inward i3) ^^^ (-1 : Int64)) = (-9223372036854775808 : Int64)) := (fun e => by have := congrArg Int64.toInt e; have := own_inward_b i3; have := own_xnJ (own_inward i3); have := (by decide : ((-9223372036854775808 : Int64)).toInt = -9223372036854775808); omega)
            have hc28 : ¬ (((own_inward i3) ^^^ (-1 : Int64)) = (9223372036854775807 : Int64)) := (fun e => by have := congrArg Int64.toInt e; have := own_inward_b i3; have := own_xnJ (own_inward i3); have := (by decide : ((9223372036854775807 : Int64)).toInt = 9223372036854775807); omega)
            have hc38 : ¬ (((own_inward i1) ^^^ (-1 : Int64)) = ((own_inward i3) ^^^ (-1 : Int64))) := hk21
            obtain ⟨_, Tr13, Lr13, Xr13, hQr13, str13⟩ := ocallV Xr12 hx hZ zm7 zm7 hown (ww hw 34 rfl) (ww hw 35 rfl) (notFace_of_selects (args := #[]) (mvT hZ (ww hw 37 rfl))) (ww hw 37 rfl) (ww hw 36 rfl) (by decide) (ww hw 38 rfl) (ww hw 11 rfl) er12 f35 (rm5_79 l Z a0 hw [] br5 (own_inward i3) w1 w0 b2 ((own_inward i1) ^^^ (-1 : Int64)) k2 b1 b3 k1 Tr10.heap n0 Z_4 f30 f37 ha20 f35 f31 f32 f38 hc36 hc27 hc28 hc38 f33 f36 g2 O1 f39 ne2 (Ne.symm ne1) g3 ne3 f34 g1) (st := [.null, (.long (own_inward i3)), (.ref br5)]) rfl 0 rfl (by decide) (pc := 157) (Ls := (lc29 i0 i1 i2 i3 0 w1 (own_inward i1) (own_inward i2) (own_inward i3) br5 b3 b3 0 b3 (own_inward i1))) hml rfl (lenOf pd_6 rfl) at_157 hby
            obtain ⟨b4, rfl, Nr13q, Kr13, sz4, f40, f41, f42, f43, f44, f45, f46, f47, f48, f49, f50⟩ := hQr13
            have N11 := Fr.app N10 Nr13q
            have Z_5 : n0 ≤ Tr13.heap.size := Nat.le_trans Z_4 Kr13.1
            have hc43 : ¬ ((own_inward i3) < (own_inward i1)) := (fun e => by have := Int64.lt_iff_toInt_lt.mp e; have : ¬ (((own_inward i1) ^^^ (-1 : Int64))).toInt < (((own_inward i3) ^^^ (-1 : Int64))).toInt := fun e => hk20 (Int64.lt_iff_toInt_lt.mpr e); have := own_inward_b i3; have := own_inward_b i1; have := own_xnJ (own_inward i1); have := own_xnJ (own_inward i3); omega)
            obtain ⟨_, Tr14, Lr14, Xr14, hQr14, str14⟩ := ocallS Xr13 hx hZ zm8 hown (ww hw 69 rfl) (ww hw 70 rfl) (by decide) (ww hw 71 rfl) (ww hw 5 rfl) rfl (rm10_62 l Z a0 hw [] (own_inward i3) (own_inward i1) Tr13.heap n0 Z_5 hc43) (st := [(.long (own_inward i1)), (.long (own_inward i3)), (.int 0)]) rfl 0 rfl (by decide) (pc := 168) (Ls := (lc30 i0 i1 i2 i3 0 w1 (own_inward i1) (own_inward i2) (own_inward i3) br5 b3 b3 0 b3 (own_inward i1) b4)) hml rfl (lenOf pd_7 rfl) at_168 hby
            obtain ⟨rfl, Nr14q, er14⟩ := hQr14
            have N12 := Fr.app N11 Nr14q
            refine own_go (U' := Tr14.setTop (mkF m 171 (lc30 i0 i1 i2 i3 0 w1 (own_inward i1) (own_inward i2) (own_inward i3) br5 b3 b3 0 b3 (own_inward i1) b4) [(.int 0)])) (fun t k => oifY (pc := 128) Xr11 hx hby at_128 136 (by decide) (by decide) (olload Xr11 hx hby at_136 rfl (olstore Xr11 hx hby at_138 (lc29 i0 i1 i2 i3 0 w1 (own_inward i1) (own_inward i2) (own_inward i3) br5 b3 b3 0 b3 (own_inward i1)) rfl (oaload Xr11 hx hby at_140 rfl rfl (str12 _ (oaload Xr12 hx hby at_145 rfl rfl (oacmp (pc := 147) Xr12 hx hby at_147 152 (same := true) rfl rfl (decide_eq_true rfl) (by decide) (oaload Xr12 hx hby at_152 rfl rfl (olload Xr12 hx hby at_154 rfl (onull Xr12 hx hby at_156 (str13 _ (oastore Xr13 hx hby at_160 (lc30 i0 i1 i2 i3 0 w1 (own_inward i1) (own_inward i2) (own_inward i3) br5 b3 b3 0 b3 (own_inward i1) b4) rfl rfl (oiload Xr13 hx hby at_162 rfl (olload Xr13 hx hby at_164 rfl (olload Xr13 hx hby at_166 rfl (str14 _ k)))))))))))))))) ?_
            have f51 : Exa Z Tr13.heap br5 zs2 := (f35.keep Kr13)
            obtain ⟨_, Tr15, Lr15, Xr15, hQr15, str15⟩ := ocallV Xr14 hx hZ zm2 zm2 hown (ww hw 27 rfl) (ww hw 28 rfl) (notFace_of_selects (args := #[]) (mvT hZ (ww hw 30 rfl))) (ww hw 30 rfl) (ww hw 29 rfl) (by decide) (ww hw 31 rfl) (ww hw 11 rfl) er14 f51 (rm4_19 l Z a0 hw [] br5 b1 b4 b3 k1 Tr13.heap n0 Z_5 f43 f45 f40) (st := [(.ref br5)]) rfl 0 rfl (by decide) (pc := 185) (Ls := (lc31 i0 i1 i2 i3 0 w1 (own_inward i1) (own_inward i2) (own_inward i3) br5 b3 b3 0 b3 (own_inward i1) b4 b3)) hml rfl (lenOf pd_2 rfl) at_185 hby
            obtain ⟨rfl, Nr15q, er15⟩ := hQr15
            have N13 := Fr.app N12 Nr15q
            refine own_go (U' := Tr15.setTop (mkF m 198 (lc31 i0 i1 i2 i3 0 w1 (own_inward i1) (own_inward i2) (own_inward i3) br5 b3 b3 0 b3 (own_inward i1) b4 b3) [(.int 1)])) (fun t k => oifY (pc := 171) Xr14 hx hby at_171 179 (by decide) (by decide) (oaload Xr14 hx hby at_179 rfl rfl (oastore Xr14 hx hby at_181 (lc31 i0 i1 i2 i3 0 w1 (own_inward i1) (own_inward i2) (own_inward i3) br5 b3 b3 0 b3 (own_inward i1) b4 b3) rfl rfl (oaload Xr14 hx hby at_183 rfl rfl (str15 _ (oaload Xr15 hx hby at_188 rfl rfl (oacmp (pc := 190) Xr15 hx hby at_190 193 (same := true) rfl rfl (decide_eq_true rfl) (by decide) (oiconst Xr15 hx hby at_193 (ogoto (pc := 194) Xr15 hx hby at_194 198 (by decide) k))))))))) ?_
            obtain ⟨fs, hr, hrun, hended, hW, hsame⟩ := Xr15.leave (v := some (.int 1)) (fun h => by rw [Bd.returns] at h; cases h)
            refine own_out ⟨_, _, ?_, hrun, hended, _, _, rfl, ?_, ⟨_, rfl⟩, hW, hsame.mono (by decide) (by decide)⟩
            · exact retN Xr15 hx (t := .boolean) Bd.returns (by simp) (hb hby at_198) hr
            · exact ⟨rfl, N13⟩
      · have hc44 : ¬ (((own_inward i1) ^^^ (-1 : Int64)) = ((own_inward i2) ^^^ (-1 : Int64))) := hk19
        obtain ⟨_, Tr10, Lr10, Xr10, hQr10, str10⟩ := ocallV Xr9 hx hZ zm7 zm7 hown (ww hw 34 rfl) (ww hw 35 rfl) (notFace_of_selects (args := #[]) (mvT hZ (ww hw 37 rfl))) (ww hw 37 rfl) (ww hw 36 rfl) (by decide) (ww hw 38 rfl) (ww hw 11 rfl) er9 f28 (rm5_80 l Z a0 hw [] br5 (own_inward i2) w1 w0 b2 ((own_inward i1) ^^^ (-1 : Int64)) k2 b1 b3 k1 Tr8.heap n0 Z_3 f19 f29 ha20 f28 f20 f22 f18 hc39 hc23 hc24 hc44 f21 f17 g2 O1 f24 ne2 (Ne.symm ne1) g3 ne3 f23 g1) (st := [.null, (.long (own_inward i2)), (.ref br5)]) rfl 0 rfl (by decide) (pc := 96) (Ls := (lc24 i0 i1 i2 i3 0 w1 (own_inward i1) (own_inward i2) (own_inward i3) br5 b3)) hml rfl (lenOf pd_6 rfl) at_96 hby
        obtain ⟨b4, rfl, Nr10q, Kr10, sz4, f30, f31, f32, f33, f34, f35, f36, f37, f38, f39, f40⟩ := hQr10
        have N8 := Fr.app N7 Nr10q
        have Z_4 : n0 ≤ Tr10.heap.size := Nat.le_trans Z_3 Kr10.1
        have hc41 : ¬ ((own_inward i2) < (own_inward i1)) := (fun e => by have := Int64.lt_iff_toInt_lt.mp e; have : ¬ (((own_inward i1) ^^^ (-1 : Int64))).toInt < (((own_inward i2) ^^^ (-1 : Int64))).toInt := fun e => hk14 (Int64.lt_iff_toInt_lt.mpr e); have := own_inward_b i2; have := own_inward_b i1; have := own_xnJ (own_inward i1); have := own_xnJ (own_inward i2); omega)
        obtain ⟨_, Tr11, Lr11, Xr11, hQr11, str11⟩ := ocallS Xr10 hx hZ zm8 hown (ww hw 69 rfl) (ww hw 70 rfl) (by decide) (ww hw 71 rfl) (ww hw 5 rfl) rfl (rm10_62 l Z a0 hw [] (own_inward i2) (own_inward i1) Tr10.heap n0 Z_4 hc41) (st := [(.long (own_inward i1)), (.long (own_inward i2)), (.int 0)]) rfl 0 rfl (by decide) (pc := 107) (Ls := (lc25 i0 i1 i2 i3 0 w1 (own_inward i1) (own_inward i2) (own_inward i3) br5 b3 b4)) hml rfl (lenOf pd_7 rfl) at_107 hby
        obtain ⟨rfl, Nr11q, er11⟩ := hQr11
        have N9 := Fr.app N8 Nr11q
        refine own_go (U' := Tr11.setTop (mkF m 114 (lc27 i0 i1 i2 i3 0 w1 (own_inward i1) (own_inward i2) (own_inward i3) br5 b3 b4 0) [(.int 0)])) (fun t k => oifY (pc := 15) X0 hx hby at_15 24 (by decide) (by decide) (str1 _ (oastore Xr1 hx hby at_27 (lc2 i0 i1 i2 i3 0 w1) rfl rfl (olloadN Xr1 hx hby at_29 rfl (str2 _ (olstore Xr2 hx hby at_33 (lc4 i0 i1 i2 i3 0 w1 (own_inward i1)) rfl (olloadN Xr2 hx hby at_35 rfl (str3 _ (olstore Xr3 hx hby at_39 (lc5 i0 i1 i2 i3 0 w1 (own_inward i1) (own_inward i2)) rfl (olload Xr3 hx hby at_41 rfl (str4 _ (olstore Xr4 hx hby at_46 (lc6 i0 i1 i2 i3 0 w1 (own_inward i1) (own_inward i2) (own_inward i3)) rfl (str5 _ (odup Xr5 hx hby at_51 rfl (oaload Xr5 hx hby at_52 rfl rfl (str6 _ (oastore Xr6 hx hby at_57 (lc8 i0 i1 i2 i3 0 w1 (own_inward i1) (own_inward i2) (own_inward i3) br5) rfl rfl (oaload Xr6 hx hby at_59 rfl rfl (str7 _ (onlY (pc := 64) Xr7 hx hby at_64 69 (by decide) (oaload Xr7 hx hby at_69 rfl rfl (olload Xr7 hx hby at_71 rfl (onull Xr7 hx hby at_73 (str8 _ (oastore Xr8 hx hby at_77 (lc24 i0 i1 i2 i3 0 w1 (own_inward i1) (own_inward i2) (own_inward i3) br5 b3) rfl rfl (oaload Xr8 hx hby at_79 rfl rfl (str9 _ (oaload Xr9 hx hby at_84 rfl rfl (oacmp (pc := 86) Xr9 hx hby at_86 91 (same := true) rfl rfl (decide_eq_true rfl) (by decide) (oaload Xr9 hx hby at_91 rfl rfl (olload Xr9 hx hby at_93 rfl (onull Xr9 hx hby at_95 (str10 _ (oastore Xr10 hx hby at_99 (lc25 i0 i1 i2 i3 0 w1 (own_inward i1) (own_inward i2) (own_inward i3) br5 b3 b4) rfl rfl (oiload Xr10 hx hby at_101 rfl (olload Xr10 hx hby at_103 rfl (olload Xr10 hx hby at_105 rfl (str11 _ (oistore Xr11 hx hby at_110 (lc27 i0 i1 i2 i3 0 w1 (own_inward i1) (own_inward i2) (own_inward i3) br5 b3 b4 0) rfl (oiload Xr11 hx hby at_112 rfl k)))))))))))))))))))))))))))))))))))))))) ?_
        refine own_go (U' := Tr11.setTop (mkF m 128 (lc28 i0 i1 i2 i3 0 w1 (own_inward i1) (own_inward i2) (own_inward i3) br5 b3 b4 0 b3) [(.int 0)])) (fun t k => oifY (pc := 114) Xr11 hx hby at_114 122 (by decide) (by decide) (oaload Xr11 hx hby at_122 rfl rfl (oastore Xr11 hx hby at_124 (lc28 i0 i1 i2 i3 0 w1 (own_inward i1) (own_inward i2) (own_inward i3) br5 b3 b4 0 b3) rfl rfl (oiload Xr11 hx hby at_126 rfl k)))) ?_
        have f41 : Exa Z Tr10.heap br5 zs2 := (f28.keep Kr10)
        obtain ⟨_, Tr12, Lr12, Xr12, hQr12, str12⟩ := ocallV Xr11 hx hZ zm2 zm2 hown (ww hw 27 rfl) (ww hw 28 rfl) (notFace_of_selects (args := #[]) (mvT hZ (ww hw 30 rfl))) (ww hw 30 rfl) (ww hw 29 rfl) (by decide) (ww hw 31 rfl) (ww hw 11 rfl) er11 f41 (rm4_19 l Z a0 hw [] br5 b1 b4 b3 k1 Tr10.heap n0 Z_4 f33 f35 f30) (st := [(.ref br5)]) rfl 0 rfl (by decide) (pc := 142) (Ls := (lc29 i0 i1 i2 i3 0 w1 (own_inward i1) (own_inward i2) (own_inward i3) br5 b3 b4 0 b3 (own_inward i1))) hml rfl (lenOf pd_2 rfl) at_142 hby
        obtain ⟨rfl, Nr12q, er12⟩ := hQr12
        have N10 := Fr.app N9 Nr12q
        have f42 : Sta Z Tr10.heap zs6 "BUY" zs4 (.ref w0) := (own_staK f29 Kr10 (allS (own_nsE (f11.keep Kr8)) (allS (own_nsE (f13.keep Kr8)) (allS (own_nsE ((Ar5.keep Kr6).keep Kr8)) all0))))
        by_cases hk22 : ((own_inward i1) ^^^ (-1 : Int64)) < ((own_inward i3) ^^^ (-1 : Int64))
        · have hc32 : ((own_inward i1) ^^^ (-1 : Int64)) < ((own_inward i3) ^^^ (-1 : Int64)) := hk22
          have hc27 : ¬ (((own_inward i3) ^^^ (-1 : Int64)) = (-9223372036854775808 : Int64)) := (fun e => by have := congrArg Int64.toInt e; have := own_inward_b i3; have := own_xnJ (own_inward i3); have := (by decide : ((-9223372036854775808 : Int64)).toInt = -9223372036854775808); omega)
          have hc28 : ¬ (((own_inward i3) ^^^ (-1 : Int64)) = (9223372036854775807 : Int64)) := (fun e => by have := congrArg Int64.toInt e; have := own_inward_b i3; have := own_xnJ (own_inward i3); have := (by decide : ((9223372036854775807 : Int64)).toInt = 9223372036854775807); omega)
          obtain ⟨_, Tr13, Lr13, Xr13, hQr13, str13⟩ := ocallV Xr12 hx hZ zm7 zm7 hown (ww hw 34 rfl) (ww hw 35 rfl) (notFace_of_selects (args := #[]) (mvT hZ (ww hw 37 rfl))) (ww hw 37 rfl) (ww hw 36 rfl) (by decide) (ww hw 38 rfl) (ww hw 11 rfl) er12 f41 (rm5_58 l Z a0 hw [] br5 (own_inward i3) w1 w0 b2 ((own_inward i2) ^^^ (-1 : Int64)) ((own_inward i1) ^^^ (-1 : Int64)) k2 b1 b4 b3 k1 Tr10.heap n0 Z_4 f32 f42 ha20 f41 f33 f34 f31 hc32 hc27 hc28 f35 f30 g2 O1 ne2 (Ne.symm ne1) g3 ne3 f36 g1) (st := [.null, (.long (own_inward i3)), (.ref br5)]) rfl 0 rfl (by decide) (pc := 157) (Ls := (lc29 i0 i1 i2 i3 0 w1 (own_inward i1) (own_inward i2) (own_inward i3) br5 b3 b4 0 b3 (own_inward i1))) hml rfl (lenOf pd_6 rfl) at_157 hby
          obtain ⟨b5, rfl, Nr13q, Kr13, sz5, f43, f44, f45, f46, f47, f48, f49, f50, f51, f52, f53⟩ := hQr13
          have N11 := Fr.app N10 Nr13q
          have Z_5 : n0 ≤ Tr13.heap.size := Nat.le_trans Z_4 Kr13.1
          have hc42 : (own_inward i3) < (own_inward i1) := (Int64.lt_iff_toInt_lt.mpr (by have := Int64.lt_iff_toInt_lt.mp hk22; have := own_inward_b i3; have := own_inward_b i1; have := own_xnJ (own_inward i1); have := own_xnJ (own_inward i3); omega))
          obtain ⟨_, Tr14, Lr14, Xr14, hQr14, str14⟩ := ocallS Xr13 hx hZ zm8 hown (ww hw 69 rfl) (ww hw 70 rfl) (by decide) (ww hw 71 rfl) (ww hw 5 rfl) rfl (rm10_55 l Z a0 hw [] (own_inward i3) (own_inward i1) Tr13.heap n0 Z_5 hc42) (st := [(.long (own_inward i1)), (.long (own_inward i3)), (.int 0)]) rfl 0 rfl (by decide) (pc := 168) (Ls := (lc30 i0 i1 i2 i3 0 w1 (own_inward i1) (own_inward i2) (own_inward i3) br5 b3 b4 0 b3 (own_inward i1) b5)) hml rfl (lenOf pd_7 rfl) at_168 hby
          obtain ⟨rfl, Nr14q, er14⟩ := hQr14
          have N12 := Fr.app N11 Nr14q
          refine own_go (U' := Tr14.setTop (mkF m 171 (lc30 i0 i1 i2 i3 0 w1 (own_inward i1) (own_inward i2) (own_inward i3) br5 b3 b4 0 b3 (own_inward i1) b5) [(.int 1)])) (fun t k => oifY (pc := 128) Xr11 hx hby at_128 136 (by decide) (by decide) (olload Xr11 hx hby at_136 rfl (olstore Xr11 hx hby at_138 (lc29 i0 i1 i2 i3 0 w1 (own_inward i1) (own_inward i2) (own_inward i3) br5 b3 b4 0 b3 (own_inward i1)) rfl (oaload Xr11 hx hby at_140 rfl rfl (str12 _ (oaload Xr12 hx hby at_145 rfl rfl (oacmp (pc := 147) Xr12 hx hby at_147 152 (same := true) rfl rfl (decide_eq_true rfl) (by decide) (oaload Xr12 hx hby at_152 rfl rfl (olload Xr12 hx hby at_154 rfl (onull Xr12 hx hby at_156 (str13 _ (oastore Xr13 hx hby at_160 (lc30 i0 i1 i2 i3 0 w1 (own_inward i1) (own_inward i2) (own_inward i3) br5 b3 b4 0 b3 (own_inward i1) b5) rfl rfl (oiload Xr13 hx hby at_162 rfl (olload Xr13 hx hby at_164 rfl (olload Xr13 hx hby at_166 rfl (str14 _ k)))))))))))))))) ?_
          have f54 : Exa Z Tr13.heap br5 zs2 := (f41.keep Kr13)
          obtain ⟨_, Tr15, Lr15, Xr15, hQr15, str15⟩ := ocallV Xr14 hx hZ zm2 zm2 hown (ww hw 27 rfl) (ww hw 28 rfl) (notFace_of_selects (args := #[]) (mvT hZ (ww hw 30 rfl))) (ww hw 30 rfl) (ww hw 29 rfl) (by decide) (ww hw 31 rfl) (ww hw 11 rfl) er14 f54 (rm4_24 l Z a0 hw [] br5 b1 b4 b3 b5 k1 Tr13.heap n0 Z_5 f46 f48 f43) (st := [(.ref br5)]) rfl 0 rfl (by decide) (pc := 185) (Ls := (lc31 i0 i1 i2 i3 0 w1 (own_inward i1) (own_inward i2) (own_inward i3) br5 b3 b4 0 b3 (own_inward i1) b5 b5)) hml rfl (lenOf pd_2 rfl) at_185 hby
          obtain ⟨rfl, Nr15q, er15⟩ := hQr15
          have N13 := Fr.app N12 Nr15q
          refine own_go (U' := Tr15.setTop (mkF m 198 (lc31 i0 i1 i2 i3 0 w1 (own_inward i1) (own_inward i2) (own_inward i3) br5 b3 b4 0 b3 (own_inward i1) b5 b5) [(.int 1)])) (fun t k => oifN Xr14 hx hby at_171 (by decide) (oaload Xr14 hx hby at_174 rfl rfl (ogoto (pc := 176) Xr14 hx hby at_176 181 (by decide) (oastore Xr14 hx hby at_181 (lc31 i0 i1 i2 i3 0 w1 (own_inward i1) (own_inward i2) (own_inward i3) br5 b3 b4 0 b3 (own_inward i1) b5 b5) rfl rfl (oaload Xr14 hx hby at_183 rfl rfl (str15 _ (oaload Xr15 hx hby at_188 rfl rfl (oacmp (pc := 190) Xr15 hx hby at_190 193 (same := true) rfl rfl (decide_eq_true rfl) (by decide) (oiconst Xr15 hx hby at_193 (ogoto (pc := 194) Xr15 hx hby at_194 198 (by decide) k)))))))))) ?_
          obtain ⟨fs, hr, hrun, hended, hW, hsame⟩ := Xr15.leave (v := some (.int 1)) (fun h => by rw [Bd.returns] at h; cases h)
          refine own_out ⟨_, _, ?_, hrun, hended, _, _, rfl, ?_, ⟨_, rfl⟩, hW, hsame.mono (by decide) (by decide)⟩
          · exact retN Xr15 hx (t := .boolean) Bd.returns (by simp) (hb hby at_198) hr
          · exact ⟨rfl, N13⟩
        · by_cases hk23 : ((own_inward i2) ^^^ (-1 : Int64)) < ((own_inward i3) ^^^ (-1 : Int64))
          · have f43 : Exa Z Tr10.heap b3 zs1 := (f24.keep Kr10)
            by_cases hk24 : ((own_inward i1) ^^^ (-1 : Int64)) = ((own_inward i3) ^^^ (-1 : Int64))
            · have ne4 : br5 ≠ b3 := Nat.ne_of_lt (Nat.lt_of_lt_of_le (Nat.lt_of_lt_of_le (f1.lt) Kr6.1) sz3)
              have ne5 : b2 ≠ b3 := Nat.ne_of_lt (Nat.lt_of_lt_of_le (f13.lt) sz3)
              have ne6 : b1 ≠ b3 := Nat.ne_of_lt (Nat.lt_of_lt_of_le (f11.lt) sz3)
              have f44 : Fld Z Tr10.heap b3 zs1 "first" zs11 .null := (f27.keep Kr10 (ninS (Ne.symm ne6) (ninS (Ne.symm ne5) (ninS (Ne.symm ne4) nin0))))
              have hc36 : ¬ (((own_inward i1) ^^^ (-1 : Int64)) < ((own_inward i3) ^^^ (-1 : Int64))) := hk22
              have hc29 : ((own_inward i2) ^^^ (-1 : Int64)) < ((own_inward i3) ^^^ (-1 : Int64)) := hk23
              have hc27 : ¬ (((own_inward i3) ^^^ (-1 : Int64)) = (-9223372036854775808 : Int64)) := (fun e => by have := congrArg Int64.toInt e; have := own_inward_b i3; have := own_xnJ (own_inward i3); have := (by decide : ((-9223372036854775808 : Int64)).toInt = -9223372036854775808); omega)
              have hc28 : ¬ (((own_inward i3) ^^^ (-1 : Int64)) = (9223372036854775807 : Int64)) := (fun e => by have := congrArg Int64.toInt e; have := own_inward_b i3; have := own_xnJ (own_inward i3); have := (by decide : ((9223372036854775807 : Int64)).toInt = 9223372036854775807); omega)
              have hc37 : ((own_inward i1) ^^^ (-1 : Int64)) = ((own_inward i3) ^^^ (-1 : Int64)) := hk24
              obtain ⟨_, Tr13, Lr13, Xr13, hQr13, str13⟩ := ocallV Xr12 hx hZ zm7 zm7 hown (ww hw 34 rfl) (ww hw 35 rfl) (notFace_of_selects (args := #[]) (mvT hZ (ww hw 37 rfl))) (ww hw 37 rfl) (ww hw 36 rfl) (by decide) (ww hw 38 rfl) (ww hw 11 rfl) er12 f41 (rm5_61 l Z a0 hw [] br5 (own_inward i3) w1 w0 b2 ((own_inward i2) ^^^ (-1 : Int64)) ((own_inward i1) ^^^ (-1 : Int64)) k2 b1 b4 b3 k1 Tr10.heap n0 Z_4 f32 f42 ha20 f41 f33 f34 f31 hc36 hc29 hc27 hc28 hc37 f35 f30 f43 f44 f36 g1 (Ne.symm ne2)) (st := [.null, (.long (own_inward i3)), (.ref br5)]) rfl 0 rfl (by decide) (pc := 157) (Ls := (lc29 i0 i1 i2 i3 0 w1 (own_inward i1) (own_inward i2) (own_inward i3) br5 b3 b4 0 b3 (own_inward i1))) hml rfl (lenOf pd_6 rfl) at_157 hby
              obtain ⟨rfl, Nr13q, Kr13, f45, f46, f47, f48, f49⟩ := hQr13
              have N11 := Fr.app N10 Nr13q
              have Z_5 : n0 ≤ Tr13.heap.size := Nat.le_trans Z_4 Kr13.1
              have hc43 : ¬ ((own_inward i3) < (own_inward i1)) := (fun e => by have := Int64.lt_iff_toInt_lt.mp e; have : ¬ (((own_inward i1) ^^^ (-1 : Int64))).toInt < (((own_inward i3) ^^^ (-1 : Int64))).toInt := fun e => hk22 (Int64.lt_iff_toInt_lt.mpr e); have := own_inward_b i3; have := own_inward_b i1; have := own_xnJ (own_inward i1); have := own_xnJ (own_inward i3); omega)
              obtain ⟨_, Tr14, Lr14, Xr14, hQr14, str14⟩ := ocallS Xr13 hx hZ zm8 hown (ww hw 69 rfl) (ww hw 70 rfl) (by decide) (ww hw 71 rfl) (ww hw 5 rfl) rfl (rm10_62 l Z a0 hw [] (own_inward i3) (own_inward i1) Tr13.heap n0 Z_5 hc43) (st := [(.long (own_inward i1)), (.long (own_inward i3)), (.int 0)]) rfl 0 rfl (by decide) (pc := 168) (Ls := (lc30 i0 i1 i2 i3 0 w1 (own_inward i1) (own_inward i2) (own_inward i3) br5 b3 b4 0 b3 (own_inward i1) b3)) hml rfl (lenOf pd_7 rfl) at_168 hby
              obtain ⟨rfl, Nr14q, er14⟩ := hQr14
              have N12 := Fr.app N11 Nr14q
              refine own_go (U' := Tr14.setTop (mkF m 171 (lc30 i0 i1 i2 i3 0 w1 (own_inward i1) (own_inward i2) (own_inward i3) br5 b3 b4 0 b3 (own_inward i1) b3) [(.int 0)])) (fun t k => oifY (pc := 128) Xr11 hx hby at_128 136 (by decide) (by decide) (olload Xr11 hx hby at_136 rfl (olstore Xr11 hx hby at_138 (lc29 i0 i1 i2 i3 0 w1 (own_inward i1) (own_inward i2) (own_inward i3) br5 b3 b4 0 b3 (own_inward i1)) rfl (oaload Xr11 hx hby at_140 rfl rfl (str12 _ (oaload Xr12 hx hby at_145 rfl rfl (oacmp (pc := 147) Xr12 hx hby at_147 152 (same := true) rfl rfl (decide_eq_true rfl) (by decide) (oaload Xr12 hx hby at_152 rfl rfl (olload Xr12 hx hby at_154 rfl (onull Xr12 hx hby at_156 (str13 _ (oastore Xr13 hx hby at_160 (lc30 i0 i1 i2 i3 0 w1 (own_inward i1) (own_inward i2) (own_inward i3) br5 b3 b4 0 b3 (own_inward i1) b3) rfl rfl (oiload Xr13 hx hby at_162 rfl (olload Xr13 hx hby at_164 rfl (olload Xr13 hx hby at_166 rfl (str14 _ k)))))))))))))))) ?_
              have f50 : Exa Z Tr13.heap br5 zs2 := (f41.keep Kr13)
              have f51 : Arv Z Tr13.heap b1 k1 (.object zs1) (16 : Int32) [(.ref b4), (.ref b3)] .null := (f30.keep Kr13 (ninS (Ne.symm ne2) nin0))
              obtain ⟨_, Tr15, Lr15, Xr15, hQr15, str15⟩ := ocallV Xr14 hx hZ zm2 zm2 hown (ww hw 27 rfl) (ww hw 28 rfl) (notFace_of_selects (args := #[]) (mvT hZ (ww hw 30 rfl))) (ww hw 30 rfl) (ww hw 29 rfl) (by decide) (ww hw 31 rfl) (ww hw 11 rfl) er14 f50 (rm4_19 l Z a0 hw [] br5 b1 b4 b3 k1 Tr13.heap n0 Z_5 f46 f48 f51) (st := [(.ref br5)]) rfl 0 rfl (by decide) (pc := 185) (Ls := (lc31 i0 i1 i2 i3 0 w1 (own_inward i1) (own_inward i2) (own_inward i3) br5 b3 b4 0 b3 (own_inward i1) b3 b3)) hml rfl (lenOf pd_2 rfl) at_185 hby
              obtain ⟨rfl, Nr15q, er15⟩ := hQr15
              have N13 := Fr.app N12 Nr15q
              refine own_go (U' := Tr15.setTop (mkF m 198 (lc31 i0 i1 i2 i3 0 w1 (own_inward i1) (own_inward i2) (own_inward i3) br5 b3 b4 0 b3 (own_inward i1) b3 b3) [(.int 1)])) (fun t k => oifY (pc := 171) Xr14 hx hby at_171 179 (by decide) (by decide) (oaload Xr14 hx hby at_179 rfl rfl (oastore Xr14 hx hby at_181 (lc31 i0 i1 i2 i3 0 w1 (own_inward i1) (own_inward i2) (own_inward i3) br5 b3 b4 0 b3 (own_inward i1) b3 b3) rfl rfl (oaload Xr14 hx hby at_183 rfl rfl (str15 _ (oaload Xr15 hx hby at_188 rfl rfl (oacmp (pc := 190) Xr15 hx hby at_190 193 (same := true) rfl rfl (decide_eq_true rfl) (by decide) (oiconst Xr15 hx hby at_193 (ogoto (pc := 194) Xr15 hx hby at_194 198 (by decide) k))))))))) ?_
              obtain ⟨fs, hr, hrun, hended, hW, hsame⟩ := Xr15.leave (v := some (.int 1)) (fun h => by rw [Bd.returns] at h; cases h)
              refine own_out ⟨_, _, ?_, hrun, hended, _, _, rfl, ?_, ⟨_, rfl⟩, hW, hsame.mono (by decide) (by decide)⟩
              · exact retN Xr15 hx (t := .boolean) Bd.returns (by simp) (hb hby at_198) hr
              · exact ⟨rfl, N13⟩
            · have hc36 : ¬ (((own_inward i1) ^^^ (-1 : Int64)) < ((own_inward i3) ^^^ (-1 : Int64))) := hk22
              have hc29 : ((own_inward i2) ^^^ (-1 : Int64)) < ((own_inward i3) ^^^ (-1 : Int64)) := hk23
              have hc27 : ¬ (((own_inward i3) ^^^ (-1 : Int64)) = (-9223372036854775808 : Int64)) := (fun e => by have := congrArg Int64.toInt e; have := own_inward_b i3; have := own_xnJ (own_inward i3); have := (by decide : ((-9223372036854775808 : Int64)).toInt = -9223372036854775808); omega)
              have hc28 : ¬ (((own_inward i3) ^^^ (-1 : Int64)) = (9223372036854775807 : Int64)) := (fun e => by have := congrArg Int64.toInt e; have := own_inward_b i3; have := own_xnJ (own_inward i3); have := (by decide : ((9223372036854775807 : Int64)).toInt = 9223372036854775807); omega)
              have hc38 : ¬ (((own_inward i1) ^^^ (-1 : Int64)) = ((own_inward i3) ^^^ (-1 : Int64))) := hk24
              obtain ⟨_, Tr13, Lr13, Xr13, hQr13, str13⟩ := ocallV Xr12 hx hZ zm7 zm7 hown (ww hw 34 rfl) (ww hw 35 rfl) (notFace_of_selects (args := #[]) (mvT hZ (ww hw 37 rfl))) (ww hw 37 rfl) (ww hw 36 rfl) (by decide) (ww hw 38 rfl) (ww hw 11 rfl) er12 f41 (rm5_65 l Z a0 hw [] br5 (own_inward i3) w1 w0 b2 ((own_inward i2) ^^^ (-1 : Int64)) ((own_inward i1) ^^^ (-1 : Int64)) k2 b1 b4 b3 k1 Tr10.heap n0 Z_4 f32 f42 ha20 f41 f33 f34 f31 hc36 hc29 hc27 hc28 hc38 f35 f30 g2 O1 f43 ne2 (Ne.symm ne1) g3 ne3 f36 g1) (st := [.null, (.long (own_inward i3)), (.ref br5)]) rfl 0 rfl (by decide) (pc := 157) (Ls := (lc29 i0 i1 i2 i3 0 w1 (own_inward i1) (own_inward i2) (own_inward i3) br5 b3 b4 0 b3 (own_inward i1))) hml rfl (lenOf pd_6 rfl) at_157 hby
              obtain ⟨b5, rfl, Nr13q, Kr13, sz5, f44, f45, f46, f47, f48, f49, f50, f51, f52, f53, f54⟩ := hQr13
              have N11 := Fr.app N10 Nr13q
              have Z_5 : n0 ≤ Tr13.heap.size := Nat.le_trans Z_4 Kr13.1
              have hc43 : ¬ ((own_inward i3) < (own_inward i1)) := (fun e => by have := Int64.lt_iff_toInt_lt.mp e; have : ¬ (((own_inward i1) ^^^ (-1 : Int64))).toInt < (((own_inward i3) ^^^ (-1 : Int64))).toInt := fun e => hk22 (Int64.lt_iff_toInt_lt.mpr e); have := own_inward_b i3; have := own_inward_b i1; have := own_xnJ (own_inward i1); have := own_xnJ (own_inward i3); omega)
              obtain ⟨_, Tr14, Lr14, Xr14, hQr14, str14⟩ := ocallS Xr13 hx hZ zm8 hown (ww hw 69 rfl) (ww hw 70 rfl) (by decide) (ww hw 71 rfl) (ww hw 5 rfl) rfl (rm10_62 l Z a0 hw [] (own_inward i3) (own_inward i1) Tr13.heap n0 Z_5 hc43) (st := [(.long (own_inward i1)), (.long (own_inward i3)), (.int 0)]) rfl 0 rfl (by decide) (pc := 168) (Ls := (lc30 i0 i1 i2 i3 0 w1 (own_inward i1) (own_inward i2) (own_inward i3) br5 b3 b4 0 b3 (own_inward i1) b5)) hml rfl (lenOf pd_7 rfl) at_168 hby
              obtain ⟨rfl, Nr14q, er14⟩ := hQr14
              have N12 := Fr.app N11 Nr14q
              refine own_go (U' := Tr14.setTop (mkF m 171 (lc30 i0 i1 i2 i3 0 w1 (own_inward i1) (own_inward i2) (own_inward i3) br5 b3 b4 0 b3 (own_inward i1) b5) [(.int 0)])) (fun t k => oifY (pc := 128) Xr11 hx hby at_128 136 (by decide) (by decide) (olload Xr11 hx hby at_136 rfl (olstore Xr11 hx hby at_138 (lc29 i0 i1 i2 i3 0 w1 (own_inward i1) (own_inward i2) (own_inward i3) br5 b3 b4 0 b3 (own_inward i1)) rfl (oaload Xr11 hx hby at_140 rfl rfl (str12 _ (oaload Xr12 hx hby at_145 rfl rfl (oacmp (pc := 147) Xr12 hx hby at_147 152 (same := true) rfl rfl (decide_eq_true rfl) (by decide) (oaload Xr12 hx hby at_152 rfl rfl (olload Xr12 hx hby at_154 rfl (onull Xr12 hx hby at_156 (str13 _ (oastore Xr13 hx hby at_160 (lc30 i0 i1 i2 i3 0 w1 (own_inward i1) (own_inward i2) (own_inward i3) br5 b3 b4 0 b3 (own_inward i1) b5) rfl rfl (oiload Xr13 hx hby at_162 rfl (olload Xr13 hx hby at_164 rfl (olload Xr13 hx hby at_166 rfl (str14 _ k)))))))))))))))) ?_
              have f55 : Exa Z Tr13.heap br5 zs2 := (f41.keep Kr13)
              obtain ⟨_, Tr15, Lr15, Xr15, hQr15, str15⟩ := ocallV Xr14 hx hZ zm2 zm2 hown (ww hw 27 rfl) (ww hw 28 rfl) (notFace_of_selects (args := #[]) (mvT hZ (ww hw 30 rfl))) (ww hw 30 rfl) (ww hw 29 rfl) (by decide) (ww hw 31 rfl) (ww hw 11 rfl) er14 f55 (rm4_24 l Z a0 hw [] br5 b1 b4 b5 b3 k1 Tr13.heap n0 Z_5 f47 f49 f44) (st := [(.ref br5)]) rfl 0 rfl (by decide) (pc := 185) (Ls := (lc31 i0 i1 i2 i3 0 w1 (own_inward i1) (own_inward i2) (own_inward i3) br5 b3 b4 0 b3 (own_inward i1) b5 b3)) hml rfl (lenOf pd_2 rfl) at_185 hby
              obtain ⟨rfl, Nr15q, er15⟩ := hQr15
              have N13 := Fr.app N12 Nr15q
              refine own_go (U' := Tr15.setTop (mkF m 198 (lc31 i0 i1 i2 i3 0 w1 (own_inward i1) (own_inward i2) (own_inward i3) br5 b3 b4 0 b3 (own_inward i1) b5 b3) [(.int 1)])) (fun t k => oifY (pc := 171) Xr14 hx hby at_171 179 (by decide) (by decide) (oaload Xr14 hx hby at_179 rfl rfl (oastore Xr14 hx hby at_181 (lc31 i0 i1 i2 i3 0 w1 (own_inward i1) (own_inward i2) (own_inward i3) br5 b3 b4 0 b3 (own_inward i1) b5 b3) rfl rfl (oaload Xr14 hx hby at_183 rfl rfl (str15 _ (oaload Xr15 hx hby at_188 rfl rfl (oacmp (pc := 190) Xr15 hx hby at_190 193 (same := true) rfl rfl (decide_eq_true rfl) (by decide) (oiconst Xr15 hx hby at_193 (ogoto (pc := 194) Xr15 hx hby at_194 198 (by decide) k))))))))) ?_
              obtain ⟨fs, hr, hrun, hended, hW, hsame⟩ := Xr15.leave (v := some (.int 1)) (fun h => by rw [Bd.returns] at h; cases h)
              refine own_out ⟨_, _, ?_, hrun, hended, _, _, rfl, ?_, ⟨_, rfl⟩, hW, hsame.mono (by decide) (by decide)⟩
              · exact retN Xr15 hx (t := .boolean) Bd.returns (by simp) (hb hby at_198) hr
              · exact ⟨rfl, N13⟩
          · by_cases hk25 : ((own_inward i2) ^^^ (-1 : Int64)) = ((own_inward i3) ^^^ (-1 : Int64))
            · have hc36 : ¬ (((own_inward i1) ^^^ (-1 : Int64)) < ((own_inward i3) ^^^ (-1 : Int64))) := hk22
              have hc31 : ¬ (((own_inward i2) ^^^ (-1 : Int64)) < ((own_inward i3) ^^^ (-1 : Int64))) := hk23
              have hc27 : ¬ (((own_inward i3) ^^^ (-1 : Int64)) = (-9223372036854775808 : Int64)) := (fun e => by have := congrArg Int64.toInt e; have := own_inward_b i3; have := own_xnJ (own_inward i3); have := (by decide : ((-9223372036854775808 : Int64)).toInt = -9223372036854775808); omega)
              have hc28 : ¬ (((own_inward i3) ^^^ (-1 : Int64)) = (9223372036854775807 : Int64)) := (fun e => by have := congrArg Int64.toInt e; have := own_inward_b i3; have := own_xnJ (own_inward i3); have := (by decide : ((9223372036854775807 : Int64)).toInt = 9223372036854775807); omega)
              have hc33 : ((own_inward i2) ^^^ (-1 : Int64)) = ((own_inward i3) ^^^ (-1 : Int64)) := hk25
              obtain ⟨_, Tr13, Lr13, Xr13, hQr13, str13⟩ := ocallV Xr12 hx hZ zm7 zm7 hown (ww hw 34 rfl) (ww hw 35 rfl) (notFace_of_selects (args := #[]) (mvT hZ (ww hw 37 rfl))) (ww hw 37 rfl) (ww hw 36 rfl) (by decide) (ww hw 38 rfl) (ww hw 11 rfl) er12 f41 (rm5_68 l Z a0 hw [] br5 (own_inward i3) w1 w0 b2 ((own_inward i2) ^^^ (-1 : Int64)) ((own_inward i1) ^^^ (-1 : Int64)) k2 b1 b4 b3 k1 Tr10.heap n0 Z_4 f32 f42 ha20 f41 f33 f34 f31 hc36 hc31 hc27 hc28 hc33 f35 f30 f37 f40 f36 g1 (Ne.symm ne2)) (st := [.null, (.long (own_inward i3)), (.ref br5)]) rfl 0 rfl (by decide) (pc := 157) (Ls := (lc29 i0 i1 i2 i3 0 w1 (own_inward i1) (own_inward i2) (own_inward i3) br5 b3 b4 0 b3 (own_inward i1))) hml rfl (lenOf pd_6 rfl) at_157 hby
              obtain ⟨rfl, Nr13q, Kr13, f43, f44, f45, f46, f47⟩ := hQr13
              have N11 := Fr.app N10 Nr13q
              have Z_5 : n0 ≤ Tr13.heap.size := Nat.le_trans Z_4 Kr13.1
              have hc43 : ¬ ((own_inward i3) < (own_inward i1)) := (fun e => by have := Int64.lt_iff_toInt_lt.mp e; have : ¬ (((own_inward i1) ^^^ (-1 : Int64))).toInt < (((own_inward i3) ^^^ (-1 : Int64))).toInt := fun e => hk22 (Int64.lt_iff_toInt_lt.mpr e); have := own_inward_b i3; have := own_inward_b i1; have := own_xnJ (own_inward i1); have := own_xnJ (own_inward i3); omega)
              obtain ⟨_, Tr14, Lr14, Xr14, hQr14, str14⟩ := ocallS Xr13 hx hZ zm8 hown (ww hw 69 rfl) (ww hw 70 rfl) (by decide) (ww hw 71 rfl) (ww hw 5 rfl) rfl (rm10_62 l Z a0 hw [] (own_inward i3) (own_inward i1) Tr13.heap n0 Z_5 hc43) (st := [(.long (own_inward i1)), (.long (own_inward i3)), (.int 0)]) rfl 0 rfl (by decide) (pc := 168) (Ls := (lc30 i0 i1 i2 i3 0 w1 (own_inward i1) (own_inward i2) (own_inward i3) br5 b3 b4 0 b3 (own_inward i1) b4)) hml rfl (lenOf pd_7 rfl) at_168 hby
              obtain ⟨rfl, Nr14q, er14⟩ := hQr14
              have N12 := Fr.app N11 Nr14q
              refine own_go (U' := Tr14.setTop (mkF m 171 (lc30 i0 i1 i2 i3 0 w1 (own_inward i1) (own_inward i2) (own_inward i3) br5 b3 b4 0 b3 (own_inward i1) b4) [(.int 0)])) (fun t k => oifY (pc := 128) Xr11 hx hby at_128 136 (by decide) (by decide) (olload Xr11 hx hby at_136 rfl (olstore Xr11 hx hby at_138 (lc29 i0 i1 i2 i3 0 w1 (own_inward i1) (own_inward i2) (own_inward i3) br5 b3 b4 0 b3 (own_inward i1)) rfl (oaload Xr11 hx hby at_140 rfl rfl (str12 _ (oaload Xr12 hx hby at_145 rfl rfl (oacmp (pc := 147) Xr12 hx hby at_147 152 (same := true) rfl rfl (decide_eq_true rfl) (by decide) (oaload Xr12 hx hby at_152 rfl rfl (olload Xr12 hx hby at_154 rfl (onull Xr12 hx hby at_156 (str13 _ (oastore Xr13 hx hby at_160 (lc30 i0 i1 i2 i3 0 w1 (own_inward i1) (own_inward i2) (own_inward i3) br5 b3 b4 0 b3 (own_inward i1) b4) rfl rfl (oiload Xr13 hx hby at_162 rfl (olload Xr13 hx hby at_164 rfl (olload Xr13 hx hby at_166 rfl (str14 _ k)))))))))))))))) ?_
              have f48 : Exa Z Tr13.heap br5 zs2 := (f41.keep Kr13)
              have f49 : Arv Z Tr13.heap b1 k1 (.object zs1) (16 : Int32) [(.ref b4), (.ref b3)] .null := (f30.keep Kr13 (ninS (Ne.symm ne2) nin0))
              obtain ⟨_, Tr15, Lr15, Xr15, hQr15, str15⟩ := ocallV Xr14 hx hZ zm2 zm2 hown (ww hw 27 rfl) (ww hw 28 rfl) (notFace_of_selects (args := #[]) (mvT hZ (ww hw 30 rfl))) (ww hw 30 rfl) (ww hw 29 rfl) (by decide) (ww hw 31 rfl) (ww hw 11 rfl) er14 f48 (rm4_19 l Z a0 hw [] br5 b1 b4 b3 k1 Tr13.heap n0 Z_5 f44 f46 f49) (st := [(.ref br5)]) rfl 0 rfl (by decide) (pc := 185) (Ls := (lc31 i0 i1 i2 i3 0 w1 (own_inward i1) (own_inward i2) (own_inward i3) br5 b3 b4 0 b3 (own_inward i1) b4 b3)) hml rfl (lenOf pd_2 rfl) at_185 hby
              obtain ⟨rfl, Nr15q, er15⟩ := hQr15
              have N13 := Fr.app N12 Nr15q
              refine own_go (U' := Tr15.setTop (mkF m 198 (lc31 i0 i1 i2 i3 0 w1 (own_inward i1) (own_inward i2) (own_inward i3) br5 b3 b4 0 b3 (own_inward i1) b4 b3) [(.int 1)])) (fun t k => oifY (pc := 171) Xr14 hx hby at_171 179 (by decide) (by decide) (oaload Xr14 hx hby at_179 rfl rfl (oastore Xr14 hx hby at_181 (lc31 i0 i1 i2 i3 0 w1 (own_inward i1) (own_inward i2) (own_inward i3) br5 b3 b4 0 b3 (own_inward i1) b4 b3) rfl rfl (oaload Xr14 hx hby at_183 rfl rfl (str15 _ (oaload Xr15 hx hby at_188 rfl rfl (oacmp (pc := 190) Xr15 hx hby at_190 193 (same := true) rfl rfl (decide_eq_true rfl) (by decide) (oiconst Xr15 hx hby at_193 (ogoto (pc := 194) Xr15 hx hby at_194 198 (by decide) k))))))))) ?_
              obtain ⟨fs, hr, hrun, hended, hW, hsame⟩ := Xr15.leave (v := some (.int 1)) (fun h => by rw [Bd.returns] at h; cases h)
              refine own_out ⟨_, _, ?_, hrun, hended, _, _, rfl, ?_, ⟨_, rfl⟩, hW, hsame.mono (by decide) (by decide)⟩
              · exact retN Xr15 hx (t := .boolean) Bd.returns (by simp) (hb hby at_198) hr
              · exact ⟨rfl, N13⟩
            · have f43 : Exa Z Tr10.heap b3 zs1 := (f24.keep Kr10)
              have hc36 : ¬ (((own_inward i1) ^^^ (-1 : Int64)) < ((own_inward i3) ^^^ (-1 : Int64))) := hk22
              have hc31 : ¬ (((own_inward i2) ^^^ (-1 : Int64)) < ((own_inward i3) ^^^ (-1 : Int64))) := hk23
              have hc27 : ¬ (((own_inward i3) ^^^ (-1 : Int64)) = (-9223372036854775808 : Int64)) := (fun e => by have := congrArg Int64.toInt e; have := own_inward_b i3; have := own_xnJ (own_inward i3); have := (by decide : ((-9223372036854775808 : Int64)).toInt = -9223372036854775808); omega)
              have hc28 : ¬ (((own_inward i3) ^^^ (-1 : Int64)) = (9223372036854775807 : Int64)) := (fun e => by have := congrArg Int64.toInt e; have := own_inward_b i3; have := own_xnJ (own_inward i3); have := (by decide : ((9223372036854775807 : Int64)).toInt = 9223372036854775807); omega)
              have hc35 : ¬ (((own_inward i2) ^^^ (-1 : Int64)) = ((own_inward i3) ^^^ (-1 : Int64))) := hk25
              obtain ⟨_, Tr13, Lr13, Xr13, hQr13, str13⟩ := ocallV Xr12 hx hZ zm7 zm7 hown (ww hw 34 rfl) (ww hw 35 rfl) (notFace_of_selects (args := #[]) (mvT hZ (ww hw 37 rfl))) (ww hw 37 rfl) (ww hw 36 rfl) (by decide) (ww hw 38 rfl) (ww hw 11 rfl) er12 f41 (rm5_71 l Z a0 hw [] br5 (own_inward i3) w1 w0 b2 ((own_inward i2) ^^^ (-1 : Int64)) ((own_inward i1) ^^^ (-1 : Int64)) k2 b1 b4 b3 k1 Tr10.heap n0 Z_4 f32 f42 ha20 f41 f33 f34 f31 hc36 hc31 hc27 hc28 hc35 f35 f30 g2 O1 f43 f37 ne2 (Ne.symm ne1) g3 ne3 f36 g1) (st := [.null, (.long (own_inward i3)), (.ref br5)]) rfl 0 rfl (by decide) (pc := 157) (Ls := (lc29 i0 i1 i2 i3 0 w1 (own_inward i1) (own_inward i2) (own_inward i3) br5 b3 b4 0 b3 (own_inward i1))) hml rfl (lenOf pd_6 rfl) at_157 hby
              obtain ⟨b5, rfl, Nr13q, Kr13, sz5, f44, f45, f46, f47, f48, f49, f50, f51, f52, f53, f54⟩ := hQr13
              have N11 := Fr.app N10 Nr13q
              have Z_5 : n0 ≤ Tr13.heap.size := Nat.le_trans Z_4 Kr13.1
              have hc43 : ¬ ((own_inward i3) < (own_inward i1)) := (fun e => by have := Int64.lt_iff_toInt_lt.mp e; have : ¬ (((own_inward i1) ^^^ (-1 : Int64))).toInt < (((own_inward i3) ^^^ (-1 : Int64))).toInt := fun e => hk22 (Int64.lt_iff_toInt_lt.mpr e); have := own_inward_b i3; have := own_inward_b i1; have := own_xnJ (own_inward i1); have := own_xnJ (own_inward i3); omega)
              obtain ⟨_, Tr14, Lr14, Xr14, hQr14, str14⟩ := ocallS Xr13 hx hZ zm8 hown (ww hw 69 rfl) (ww hw 70 rfl) (by decide) (ww hw 71 rfl) (ww hw 5 rfl) rfl (rm10_62 l Z a0 hw [] (own_inward i3) (own_inward i1) Tr13.heap n0 Z_5 hc43) (st := [(.long (own_inward i1)), (.long (own_inward i3)), (.int 0)]) rfl 0 rfl (by decide) (pc := 168) (Ls := (lc30 i0 i1 i2 i3 0 w1 (own_inward i1) (own_inward i2) (own_inward i3) br5 b3 b4 0 b3 (own_inward i1) b5)) hml rfl (lenOf pd_7 rfl) at_168 hby
              obtain ⟨rfl, Nr14q, er14⟩ := hQr14
              have N12 := Fr.app N11 Nr14q
              refine own_go (U' := Tr14.setTop (mkF m 171 (lc30 i0 i1 i2 i3 0 w1 (own_inward i1) (own_inward i2) (own_inward i3) br5 b3 b4 0 b3 (own_inward i1) b5) [(.int 0)])) (fun t k => oifY (pc := 128) Xr11 hx hby at_128 136 (by decide) (by decide) (olload Xr11 hx hby at_136 rfl (olstore Xr11 hx hby at_138 (lc29 i0 i1 i2 i3 0 w1 (own_inward i1) (own_inward i2) (own_inward i3) br5 b3 b4 0 b3 (own_inward i1)) rfl (oaload Xr11 hx hby at_140 rfl rfl (str12 _ (oaload Xr12 hx hby at_145 rfl rfl (oacmp (pc := 147) Xr12 hx hby at_147 152 (same := true) rfl rfl (decide_eq_true rfl) (by decide) (oaload Xr12 hx hby at_152 rfl rfl (olload Xr12 hx hby at_154 rfl (onull Xr12 hx hby at_156 (str13 _ (oastore Xr13 hx hby at_160 (lc30 i0 i1 i2 i3 0 w1 (own_inward i1) (own_inward i2) (own_inward i3) br5 b3 b4 0 b3 (own_inward i1) b5) rfl rfl (oiload Xr13 hx hby at_162 rfl (olload Xr13 hx hby at_164 rfl (olload Xr13 hx hby at_166 rfl (str14 _ k)))))))))))))))) ?_
              have f55 : Exa Z Tr13.heap br5 zs2 := (f41.keep Kr13)
              obtain ⟨_, Tr15, Lr15, Xr15, hQr15, str15⟩ := ocallV Xr14 hx hZ zm2 zm2 hown (ww hw 27 rfl) (ww hw 28 rfl) (notFace_of_selects (args := #[]) (mvT hZ (ww hw 30 rfl))) (ww hw 30 rfl) (ww hw 29 rfl) (by decide) (ww hw 31 rfl) (ww hw 11 rfl) er14 f55 (rm4_24 l Z a0 hw [] br5 b1 b5 b4 b3 k1 Tr13.heap n0 Z_5 f47 f49 f44) (st := [(.ref br5)]) rfl 0 rfl (by decide) (pc := 185) (Ls := (lc31 i0 i1 i2 i3 0 w1 (own_inward i1) (own_inward i2) (own_inward i3) br5 b3 b4 0 b3 (own_inward i1) b5 b3)) hml rfl (lenOf pd_2 rfl) at_185 hby
              obtain ⟨rfl, Nr15q, er15⟩ := hQr15
              have N13 := Fr.app N12 Nr15q
              refine own_go (U' := Tr15.setTop (mkF m 198 (lc31 i0 i1 i2 i3 0 w1 (own_inward i1) (own_inward i2) (own_inward i3) br5 b3 b4 0 b3 (own_inward i1) b5 b3) [(.int 1)])) (fun t k => oifY (pc := 171) Xr14 hx hby at_171 179 (by decide) (by decide) (oaload Xr14 hx hby at_179 rfl rfl (oastore Xr14 hx hby at_181 (lc31 i0 i1 i2 i3 0 w1 (own_inward i1) (own_inward i2) (own_inward i3) br5 b3 b4 0 b3 (own_inward i1) b5 b3) rfl rfl (oaload Xr14 hx hby at_183 rfl rfl (str15 _ (oaload Xr15 hx hby at_188 rfl rfl (oacmp (pc := 190) Xr15 hx hby at_190 193 (same := true) rfl rfl (decide_eq_true rfl) (by decide) (oiconst Xr15 hx hby at_193 (ogoto (pc := 194) Xr15 hx hby at_194 198 (by decide) k))))))))) ?_
              obtain ⟨fs, hr, hrun, hended, hW, hsame⟩ := Xr15.leave (v := some (.int 1)) (fun h => by rw [Bd.returns] at h; cases h)
              refine own_out ⟨_, _, ?_, hrun, hended, _, _, rfl, ?_, ⟨_, rfl⟩, hW, hsame.mono (by decide) (by decide)⟩
              · exact retN Xr15 hx (t := .boolean) Bd.returns (by simp) (hb hby at_198) hr
              · exact ⟨rfl, N13⟩
set_option maxRecDepth 65536 in
set_option maxHeartbeats 40000000 in
theorem comes_1 {Post : Tables → Env → Array Value → State → Outcome → State → Prop} (hpost : ∀ tb e args s v u, (limb_1_1.after args s (.returned v) u = true ∧ limb_1_2.after args s (.returned v) u = true ∧ True) → FrameEnd s (.returned v) u (Jvm.fieldLocs frame_1_writes args s ++ Jvm.arrayLocs frame_1_arrays args s ++ Jvm.staticLocs frame_1_statics s) 24 192 → Post tb e args s (.returned v) u) :
    ArmFor flags0 classFile x code maxLocals ret World_1 tables_1 room_1 Calls_1 rest_1 Pre_1 Post := by
  intro l hfl _ _ p e ha hc hk s m args below hf hA hF happ hP
  obtain ⟨hcalls, hrest, hpre⟩ := hP
  obtain ⟨-, -, -, hnamed, -, -, -, hat⟩ := (Spec.applies_iff hf).mp happ
  obtain ⟨hg, hn⟩ := and_e (Cond.before_iff.mp (show (Jvm.Cond.and given_1 narrow_1).before args s = true from hpre))
  obtain ⟨g26, g27⟩ := and_e hg
  obtain ⟨g28, g29⟩ := and_e g27
  obtain ⟨g30, g31⟩ := and_e g29
  obtain ⟨g32, g33⟩ := and_e g31
  obtain ⟨v0, v1, v2, v3, rfl⟩ : ∃ v0 v1 v2 v3 : Value, args = #[v0, v1, v2, v3] := by
    have hs : args.size = 4 := by simpa [Cond.value, given_1] using g26
    obtain ⟨L⟩ := args
    match L, hs with
    | [v0, v1, v2, v3], _ => exact ⟨v0, v1, v2, v3, rfl⟩
  have hw := fun d (hd : d ∈ tables_1) => atoms_spec (ws := Jvm.Cond.code x code maxLocals ret :: tables_1) hat d (List.mem_cons_of_mem _ hd)
  obtain ⟨i0, ei0⟩ := is_v g28
  obtain rfl : v0 = (.int i0) := Option.some.inj ei0
  obtain ⟨i1, ei1⟩ := isL_v g30
  obtain rfl : v1 = (.long i1) := Option.some.inj ei1
  obtain ⟨i2, ei2⟩ := isL_v g32
  obtain rfl : v2 = (.long i2) := Option.some.inj ei2
  obtain ⟨i3, ei3⟩ := isL_v g33
  obtain rfl : v3 = (.long i3) := Option.some.inj ei3
  have hfit : Fit s := fun {y c} hc i hi => by
    obtain ⟨ha, rfl⟩ := Array.getElem?_eq_some_iff.mp hc
    have q := List.all_eq_true.mp ((Array.all_eq_true_iff_forall_mem.mp hF) _ (Array.getElem_mem ha)) i (List.mem_range.mpr hi)
    simpa [Array.getElem?_eq_getElem hi] using q
  obtain ⟨g34, g35⟩ := and_e hn
  have c0 := g34
  obtain ⟨g36, g37⟩ := and_e g35
  have c1 := g36
  obtain ⟨g38, g39⟩ := and_e g37
  have c2 := g38
  have c3 := g39
  obtain ⟨w0, ew0⟩ := exa_v c0
  have S0 := Sta.start ew0 (Or.inr ⟨(ww hw 1 rfl), (ww hw 2 rfl)⟩)
  have S1 := Exa.start ew0 c0
  obtain ⟨w1, ew1⟩ := exa_v c1
  have S2 := Sta.start ew1 (Or.inr ⟨(ww hw 1 rfl), (ww hw 82 rfl)⟩)
  have S3 := Exa.start ew1 c1
  have S4 := own_fldI ew1 c2
  have S5 := own_fldI ew0 c3
  obtain ⟨n, o, h1, h2, h3, _, L, rfl, ⟨rfl, N⟩, hq⟩ := law_all l s _ hw tables_1 i0 i1 i2 i3 w0 w1 s.heap s.heap.size (Nat.le_refl _) S0 S1 S2 S3 S4 S5 p e ha hc hk s m _ below hf ((Spec.applies_iff_loose hf).mp happ).1 ⟨rfl, State.Warmed39.refl s, rfl⟩ trivial
  refine ⟨n, _, h1, h2, h3, hpost _ _ _ _ _ _ ⟨Cond.after_iff.mpr rfl, Cond.after_iff.mpr (eq_i res_at (Term.int_eval (1)) rfl), trivial⟩ ⟨hq.1, hq.2.1, (hq.2.2.sift fun y hy => Or.inr (N y hy)).mono (by decide) (by decide)⟩⟩
theorem main_1_1 : Claimed_1_1 := comes_1 fun _ _ _ _ _ _ h hF => ⟨h.1, hF⟩
theorem main_1_2 : Claimed_1_2 := comes_1 fun _ _ _ _ _ _ h hF => ⟨h.2.1, hF⟩
end Jvm.Pilot.@@N@@
namespace Jvm.Pilot.@@N@@
open Jvm Jvm.ClassFile Sem Op Lib Jvm.Free Jvm.Stand Jvm.Pilot.@@N@@.Jvm.D
/-! MADE BY PROGRAM (witnessworld.py) out of the Statement's table words and the real class files: 19 classes; the members and pool entries that the words name. The judged class is class 1, her method 3. -/
namespace start1
open Jvm.ClassFile
def u (s : String) : CpInfo := .utf8 (stringToUtf16 s)
/-- a pool by its gaps: so many unusable entries, then the entry; so many at the end -/
def gap : Nat → List CpInfo → List CpInfo
  | 0, r => r
  | n + 1, r => .unusable :: gap n r
def poolList (es : List (Nat × CpInfo)) (last : Nat) : List CpInfo := es.foldr (fun e r => gap e.1 (e.2 :: r)) (gap last [])
def pool (es : List (Nat × CpInfo)) (last : Nat) : Array CpInfo := ⟨poolList es last⟩
def fileOf (pool : Array CpInfo) (this : Nat) (attrs : Array Attribute := #[]) (ms : Array MethodInfo := #[]) (fl : Nat := 33) (sup : Nat := 0) (ifs : Array Nat := #[]) (fds : Array FieldInfo := #[]) : ClassFile where
  minorVersion := 0
  majorVersion := 65
  constantPool := pool
  accessFlags := fl
  thisClass := this
  superClass := sup
  interfaces := ifs
  fields := fds
  methods := ms
  attributes := attrs
def plain (name : String) (sup : Option ClassId) : Class where
  name := name
  kind := .ordinary
  loader := none
  accessFlags := 33
  super := sup
  interfaces := #[]
  cf := none
  fields := #[]
  methods := #[]
  instanceTypes := #[]
  staticTypes := #[]
  resolved := #[]
  callSites := []
  init := .initialized
  statics := none
  mirror := none

def pool0 : Array CpInfo := pool [(5, u "<init>"), (0, u "()V"), (1, .class_ 10), (1, u "java/lang/Object")] 113

def k0c0 : Code := { maxStack := 0, maxLocals := 1, code := object_method_1_code, exceptionTable := #[], attributes := #[] }
def k0m0 : Method := { name := "<init>", desc := "()V", sig := { parameters := [], returnType := none }, accessFlags := 1, code := some k0c0 }
/-- java/lang/Object -/
def k0 : Class := { plain "java/lang/Object" none with
  accessFlags := 33
  interfaces := #[]
  cf := some (fileOf pool0 8 #[] #[{ accessFlags := 1, nameIndex := 5, descriptorIndex := 6, attributes := #[] }] 33 0 #[] #[])
  fields := #[]
  methods := #[k0m0]
  instanceTypes := #[]
  staticTypes := #[]
  resolved := Array.replicate 124 none
  statics := none }

def pool1 : Array CpInfo := pool [(2, .class_ 4), (1, u "java/lang/Object"), (0, u "<init>"), (0, u "()V"), (2, .long 9223372036854775808), (1, .long 9223372036854775809), (1, .long 9223372036854775807), (1, .long 9223372036854775806), (1, .fieldref 18 19), (0, .class_ 20), (0, .nameAndType 21 22), (0, u "com/example/srok/srok/engine/Side"), (0, u "BUY"), (0, u "Lcom/example/srok/srok/engine/Side;"), (0, .fieldref 18 24), (0, .nameAndType 25 22), (0, u "SELL"), (0, .methodref 27 28), (0, .class_ 29), (0, .nameAndType 30 31), (0, u "com/example/srok/srok/engine/BookSideBestPinLaw"), (0, u "inward"), (0, u "(J)J"), (0, .class_ 33), (0, u "com/example/srok/srok/engine/BookSide"), (0, .methodref 32 35), (0, .nameAndType 5 36), (0, u "(Lcom/example/srok/srok/engine/Side;)V"), (0, .methodref 32 38), (0, .nameAndType 39 40), (0, u "best"), (0, u "()Lcom/example/srok/srok/engine/PriceLevel;"), (0, .methodref 32 42), (0, .nameAndType 43 44), (0, u "levelFor"), (0, u "(JLjava/math/BigDecimal;)Lcom/example/srok/srok/engine/PriceLevel;"), (0, .methodref 27 46), (0, .nameAndType 47 48), (0, u "better"), (0, u "(ZJJ)Z"), (3, u "law"), (0, u "(IJJJ)Z")] 4

def k1m0 : Method := { name := "<init>", desc := "()V", sig := { parameters := [], returnType := none }, accessFlags := 1, code := none }
def k1c1 : Code := { maxStack := 4, maxLocals := 2, code := method_2_code, exceptionTable := #[], attributes := #[] }
def k1m1 : Method := { name := "inward", desc := "(J)J", sig := { parameters := [.long], returnType := some .long }, accessFlags := 10, code := some k1c1 }
def k1c2 : Code := { maxStack := 4, maxLocals := 5, code := method_3_code, exceptionTable := #[], attributes := #[] }
def k1m2 : Method := { name := "better", desc := "(ZJJ)Z", sig := { parameters := [.boolean, .long, .long], returnType := some .boolean }, accessFlags := 10, code := some k1c2 }
def k1c3 : Code := { maxStack := 5, maxLocals := 24, code := code, exceptionTable := #[], attributes := #[] }
def k1m3 : Method := { name := "law", desc := "(IJJJ)Z", sig := { parameters := [.int, .long, .long, .long], returnType := some .boolean }, accessFlags := 9, code := some k1c3 }
/-- com/example/srok/srok/engine/BookSideBestPinLaw -/
def k1 : Class := { plain "com/example/srok/srok/engine/BookSideBestPinLaw" (some 0) with
  accessFlags := 49
  interfaces := #[]
  cf := some (fileOf pool1 27 #[] #[{ accessFlags := 1, nameIndex := 5, descriptorIndex := 6, attributes := #[] }, { accessFlags := 10, nameIndex := 30, descriptorIndex := 31, attributes := #[] }, { accessFlags := 10, nameIndex := 47, descriptorIndex := 48, attributes := #[] }, { accessFlags := 9, nameIndex := 52, descriptorIndex := 53, attributes := #[] }] 49 2 #[] #[])
  fields := #[]
  methods := #[k1m0, k1m1, k1m2, k1m3]
  instanceTypes := #[]
  staticTypes := #[]
  resolved := Array.replicate 58 none
  statics := none }

def pool2 : Array CpInfo := pool [(1, .class_ 2), (0, u "java/lang/constant/Constable"), (0, .class_ 4), (0, u "java/lang/Object")] 6

/-- java/lang/constant/Constable -/
def k2 : Class := { plain "java/lang/constant/Constable" (some 0) with
  accessFlags := 1537
  interfaces := #[]
  cf := some (fileOf pool2 1 #[] #[] 1537 3 #[] #[])
  fields := #[]
  methods := #[]
  instanceTypes := #[]
  staticTypes := #[]
  resolved := Array.replicate 11 none
  statics := none }

def pool3 : Array CpInfo := pool [(1, .class_ 2), (0, u "java/lang/Comparable"), (0, .class_ 4), (0, u "java/lang/Object")] 7

/-- java/lang/Comparable -/
def k3 : Class := { plain "java/lang/Comparable" (some 0) with
  accessFlags := 1537
  interfaces := #[]
  cf := some (fileOf pool3 1 #[] #[] 1537 3 #[] #[])
  fields := #[]
  methods := #[]
  instanceTypes := #[]
  staticTypes := #[]
  resolved := Array.replicate 12 none
  statics := none }

def pool4 : Array CpInfo := pool [(1, .class_ 2), (0, u "java/io/Serializable"), (0, .class_ 4), (0, u "java/lang/Object")] 2

/-- java/io/Serializable -/
def k4 : Class := { plain "java/io/Serializable" (some 0) with
  accessFlags := 1537
  interfaces := #[]
  cf := some (fileOf pool4 1 #[] #[] 1537 3 #[] #[])
  fields := #[]
  methods := #[]
  instanceTypes := #[]
  staticTypes := #[]
  resolved := Array.replicate 7 none
  statics := none }

def pool5 : Array CpInfo := pool [(2, .class_ 4), (1, u "java/lang/Enum"), (0, u "name"), (0, u "Ljava/lang/String;"), (2, u "ordinal"), (0, u "I"), (1, .class_ 14), (1, u "java/lang/Object"), (4, u "hash"), (86, .class_ 108), (1, u "java/lang/Enum$EnumDesc"), (2, .class_ 112), (0, u "java/lang/constant/Constable"), (0, .class_ 114), (0, u "java/lang/Comparable"), (0, .class_ 116), (0, u "java/io/Serializable")] 87

/-- java/lang/Enum -/
def k5 : Class := { plain "java/lang/Enum" (some 0) with
  accessFlags := 1057
  interfaces := #[2, 3, 4]
  cf := some (fileOf pool5 2 #[.nestMembers #[106]] #[] 1057 12 #[111, 113, 115] #[{ accessFlags := 18, nameIndex := 5, descriptorIndex := 6, attributes := #[] }, { accessFlags := 18, nameIndex := 9, descriptorIndex := 10, attributes := #[] }, { accessFlags := 2, nameIndex := 19, descriptorIndex := 10, attributes := #[] }])
  fields := #[{ name := "name", type := (.object "java/lang/String"), accessFlags := 18, slot := 0, constantValue := 0 }, { name := "ordinal", type := .int, accessFlags := 18, slot := 1, constantValue := 0 }, { name := "hash", type := .int, accessFlags := 2, slot := 2, constantValue := 0 }]
  methods := #[]
  instanceTypes := #[(.object "java/lang/String"), .int, .int]
  staticTypes := #[]
  resolved := Array.replicate 204 none
  statics := none }

def pool6 : Array CpInfo := pool [(1, .class_ 2), (0, u "com/example/srok/srok/engine/Side"), (2, u "BUY"), (0, u "Lcom/example/srok/srok/engine/Side;"), (2, u "SELL"), (2, u "$VALUES"), (0, u "[Lcom/example/srok/srok/engine/Side;"), (6, .class_ 22), (1, u "java/lang/Enum"), (8, u "word"), (0, u "Ljava/lang/String;")] 26

/-- com/example/srok/srok/engine/Side -/
def k6 : Class := { plain "com/example/srok/srok/engine/Side" (some 5) with
  accessFlags := 16433
  interfaces := #[]
  cf := some (fileOf pool6 1 #[] #[] 16433 20 #[] #[{ accessFlags := 16409, nameIndex := 5, descriptorIndex := 6, attributes := #[] }, { accessFlags := 16409, nameIndex := 9, descriptorIndex := 6, attributes := #[] }, { accessFlags := 18, nameIndex := 31, descriptorIndex := 32, attributes := #[] }, { accessFlags := 4122, nameIndex := 12, descriptorIndex := 13, attributes := #[] }])
  fields := #[{ name := "BUY", type := (.object "com/example/srok/srok/engine/Side"), accessFlags := 16409, slot := 0, constantValue := 0 }, { name := "SELL", type := (.object "com/example/srok/srok/engine/Side"), accessFlags := 16409, slot := 1, constantValue := 0 }, { name := "word", type := (.object "java/lang/String"), accessFlags := 18, slot := 3, constantValue := 0 }, { name := "$VALUES", type := (.array (.object "com/example/srok/srok/engine/Side")), accessFlags := 4122, slot := 2, constantValue := 0 }]
  methods := #[]
  instanceTypes := #[(.object "java/lang/String"), .int, .int, (.object "java/lang/String")]
  staticTypes := #[(.object "com/example/srok/srok/engine/Side"), (.object "com/example/srok/srok/engine/Side"), (.array (.object "com/example/srok/srok/engine/Side"))]
  resolved := Array.replicate 59 none
  statics := some 0 }

def pool7 : Array CpInfo := pool [(1, .methodref 2 3), (0, .class_ 4), (0, .nameAndType 5 6), (0, u "java/lang/Object"), (0, u "<init>"), (0, u "()V"), (0, .class_ 8), (0, u "com/example/srok/srok/engine/BookSide"), (0, .class_ 10), (0, u "com/example/srok/srok/engine/PriceLevel"), (0, .fieldref 7 12), (0, .nameAndType 13 14), (0, u "levels"), (0, u "[Lcom/example/srok/srok/engine/PriceLevel;"), (0, .fieldref 7 16), (0, .nameAndType 17 18), (0, u "ranks"), (0, u "[J"), (0, .fieldref 7 20), (0, .nameAndType 21 22), (0, u "side"), (0, u "Lcom/example/srok/srok/engine/Side;"), (0, .fieldref 7 24), (0, .nameAndType 25 26), (0, u "count"), (0, u "I"), (8, .methodref 7 36), (0, .nameAndType 37 38), (0, u "indexOf"), (0, u "(JLjava/math/BigDecimal;)I"), (0, .methodref 9 40), (0, .nameAndType 41 42), (0, u "isEmpty"), (0, u "()Z"), (0, .fieldref 7 44), (0, .nameAndType 45 26), (0, u "emptyLevels"), (10, .methodref 57 58), (0, .class_ 59), (0, .nameAndType 60 61), (0, u "java/lang/System"), (0, u "arraycopy"), (0, u "(Ljava/lang/Object;ILjava/lang/Object;II)V"), (0, .methodref 9 63), (0, .nameAndType 5 64), (0, u "(Ljava/math/BigDecimal;J)V"), (0, .methodref 7 66), (0, .nameAndType 67 68), (0, u "rank"), (0, u "(J)J"), (4, .fieldref 74 75), (0, .class_ 76), (0, .nameAndType 77 22), (0, u "com/example/srok/srok/engine/Side"), (0, u "BUY"), (0, .long 18446744073709551615), (1, .methodref 81 82), (0, .class_ 83), (0, .nameAndType 84 85), (0, u "java/lang/Math"), (0, u "max"), (0, u "(II)I"), (2, .long 9223372036854775808), (1, .long 9223372036854775807), (11, u "INITIAL_LEVELS"), (2, u "(Lcom/example/srok/srok/engine/Side;)V"), (3, u "best"), (0, u "()Lcom/example/srok/srok/engine/PriceLevel;"), (2, u "levelFor"), (0, u "(JLjava/math/BigDecimal;)Lcom/example/srok/srok/engine/PriceLevel;")] 4

def k7c0 : Code := { maxStack := 2, maxLocals := 2, code := prog_2_method_1_code, exceptionTable := #[], attributes := #[] }
def k7m0 : Method := { name := "<init>", desc := "(Lcom/example/srok/srok/engine/Side;)V", sig := { parameters := [(.object "com/example/srok/srok/engine/Side")], returnType := none }, accessFlags := 0, code := some k7c0 }
def k7c1 : Code := { maxStack := 3, maxLocals := 1, code := prog_2_method_3_code, exceptionTable := #[], attributes := #[] }
def k7m1 : Method := { name := "best", desc := "()Lcom/example/srok/srok/engine/PriceLevel;", sig := { parameters := [], returnType := some (.object "com/example/srok/srok/engine/PriceLevel") }, accessFlags := 0, code := some k7c1 }
def k7c2 : Code := { maxStack := 6, maxLocals := 7, code := prog_2_method_5_code, exceptionTable := #[], attributes := #[] }
def k7m2 : Method := { name := "levelFor", desc := "(JLjava/math/BigDecimal;)Lcom/example/srok/srok/engine/PriceLevel;", sig := { parameters := [.long, (.object "java/math/BigDecimal")], returnType := some (.object "com/example/srok/srok/engine/PriceLevel") }, accessFlags := 0, code := some k7c2 }
def k7c3 : Code := { maxStack := 4, maxLocals := 3, code := prog_2_method_7_code, exceptionTable := #[], attributes := #[] }
def k7m3 : Method := { name := "rank", desc := "(J)J", sig := { parameters := [.long], returnType := some .long }, accessFlags := 2, code := some k7c3 }
def k7c4 : Code := { maxStack := 4, maxLocals := 11, code := prog_2_method_8_code, exceptionTable := #[], attributes := #[] }
def k7m4 : Method := { name := "indexOf", desc := "(JLjava/math/BigDecimal;)I", sig := { parameters := [.long, (.object "java/math/BigDecimal")], returnType := some .int }, accessFlags := 2, code := some k7c4 }
/-- com/example/srok/srok/engine/BookSide -/
def k7 : Class := { plain "com/example/srok/srok/engine/BookSide" (some 0) with
  accessFlags := 48
  interfaces := #[]
  cf := some (fileOf pool7 7 #[] #[{ accessFlags := 0, nameIndex := 5, descriptorIndex := 105, attributes := #[] }, { accessFlags := 0, nameIndex := 109, descriptorIndex := 110, attributes := #[] }, { accessFlags := 0, nameIndex := 113, descriptorIndex := 114, attributes := #[] }, { accessFlags := 2, nameIndex := 67, descriptorIndex := 68, attributes := #[] }, { accessFlags := 2, nameIndex := 37, descriptorIndex := 38, attributes := #[] }] 48 2 #[] #[{ accessFlags := 26, nameIndex := 102, descriptorIndex := 26, attributes := #[] }, { accessFlags := 18, nameIndex := 21, descriptorIndex := 22, attributes := #[] }, { accessFlags := 2, nameIndex := 13, descriptorIndex := 14, attributes := #[] }, { accessFlags := 2, nameIndex := 17, descriptorIndex := 18, attributes := #[] }, { accessFlags := 2, nameIndex := 25, descriptorIndex := 26, attributes := #[] }, { accessFlags := 2, nameIndex := 45, descriptorIndex := 26, attributes := #[] }])
  fields := #[{ name := "INITIAL_LEVELS", type := .int, accessFlags := 26, slot := 0, constantValue := 0 }, { name := "side", type := (.object "com/example/srok/srok/engine/Side"), accessFlags := 18, slot := 0, constantValue := 0 }, { name := "levels", type := (.array (.object "com/example/srok/srok/engine/PriceLevel")), accessFlags := 2, slot := 1, constantValue := 0 }, { name := "ranks", type := (.array .long), accessFlags := 2, slot := 2, constantValue := 0 }, { name := "count", type := .int, accessFlags := 2, slot := 3, constantValue := 0 }, { name := "emptyLevels", type := .int, accessFlags := 2, slot := 4, constantValue := 0 }]
  methods := #[k7m0, k7m1, k7m2, k7m3, k7m4]
  instanceTypes := #[(.object "com/example/srok/srok/engine/Side"), (.array (.object "com/example/srok/srok/engine/PriceLevel")), (.array .long), .int, .int]
  staticTypes := #[.int]
  resolved := Array.replicate 119 none
  statics := none }

def pool8 : Array CpInfo := pool [(1, .methodref 2 3), (0, .class_ 4), (0, .nameAndType 5 6), (0, u "java/lang/Object"), (0, u "<init>"), (0, u "()V"), (0, .fieldref 8 9), (0, .class_ 10), (0, .nameAndType 11 12), (0, u "com/example/srok/srok/engine/PriceLevel"), (0, u "price"), (0, u "Ljava/math/BigDecimal;"), (0, .fieldref 8 14), (0, .nameAndType 15 16), (0, u "priceSteps"), (0, u "J"), (0, .fieldref 8 18), (0, .nameAndType 19 20), (0, u "first"), (0, u "Lcom/example/srok/srok/engine/Order;"), (8, u "last"), (6, u "(Ljava/math/BigDecimal;J)V"), (4, u "isEmpty"), (0, u "()Z")] 7

def k8c0 : Code := { maxStack := 3, maxLocals := 4, code := prog_14_method_1_code, exceptionTable := #[], attributes := #[] }
def k8m0 : Method := { name := "<init>", desc := "(Ljava/math/BigDecimal;J)V", sig := { parameters := [(.object "java/math/BigDecimal"), .long], returnType := none }, accessFlags := 0, code := some k8c0 }
def k8c1 : Code := { maxStack := 1, maxLocals := 1, code := prog_14_method_4_code, exceptionTable := #[], attributes := #[] }
def k8m1 : Method := { name := "isEmpty", desc := "()Z", sig := { parameters := [], returnType := some .boolean }, accessFlags := 0, code := some k8c1 }
/-- com/example/srok/srok/engine/PriceLevel -/
def k8 : Class := { plain "com/example/srok/srok/engine/PriceLevel" (some 0) with
  accessFlags := 48
  interfaces := #[]
  cf := some (fileOf pool8 8 #[] #[{ accessFlags := 0, nameIndex := 5, descriptorIndex := 36, attributes := #[] }, { accessFlags := 0, nameIndex := 41, descriptorIndex := 42, attributes := #[] }] 48 2 #[] #[{ accessFlags := 18, nameIndex := 11, descriptorIndex := 12, attributes := #[] }, { accessFlags := 18, nameIndex := 15, descriptorIndex := 16, attributes := #[] }, { accessFlags := 2, nameIndex := 19, descriptorIndex := 20, attributes := #[] }, { accessFlags := 2, nameIndex := 29, descriptorIndex := 20, attributes := #[] }])
  fields := #[{ name := "price", type := (.object "java/math/BigDecimal"), accessFlags := 18, slot := 0, constantValue := 0 }, { name := "priceSteps", type := .long, accessFlags := 18, slot := 1, constantValue := 0 }, { name := "first", type := (.object "com/example/srok/srok/engine/Order"), accessFlags := 2, slot := 2, constantValue := 0 }, { name := "last", type := (.object "com/example/srok/srok/engine/Order"), accessFlags := 2, slot := 3, constantValue := 0 }]
  methods := #[k8m0, k8m1]
  instanceTypes := #[(.object "java/math/BigDecimal"), .long, (.object "com/example/srok/srok/engine/Order"), (.object "com/example/srok/srok/engine/Order")]
  staticTypes := #[]
  resolved := Array.replicate 50 none
  statics := none }

def pool9 : Array CpInfo := pool [(1, .class_ 2), (0, u "java/lang/Math"), (1, .class_ 6), (1, u "java/lang/Object"), (0, u "<init>"), (0, u "()V"), (89, .class_ 100), (1, u "java/lang/Math$RandomNumberGeneratorHolder"), (71, u "negativeZeroFloatBits"), (0, u "J"), (2, u "negativeZeroDoubleBits"), (21, u "max"), (46, u "$assertionsDisabled"), (0, u "Z"), (88, u "(II)I"), (2, u "twoToTheDoubleScaleDown"), (0, u "D"), (4, u "twoToTheDoubleScaleUp"), (9, u "E"), (3, u "PI"), (2, u "TAU"), (2, u "DEGREES_TO_RADIANS"), (0, u "RADIANS_TO_DEGREES")] 94

def k9m0 : Method := { name := "<init>", desc := "()V", sig := { parameters := [], returnType := none }, accessFlags := 2, code := none }
def k9c1 : Code := { maxStack := 2, maxLocals := 2, code := jdk_29_method_65_code, exceptionTable := #[], attributes := #[] }
def k9m1 : Method := { name := "max", desc := "(II)I", sig := { parameters := [.int, .int], returnType := some .int }, accessFlags := 9, code := some k9c1 }
/-- java/lang/Math -/
def k9 : Class := { plain "java/lang/Math" (some 0) with
  accessFlags := 49
  interfaces := #[]
  cf := some (fileOf pool9 1 #[.nestMembers #[98]] #[{ accessFlags := 2, nameIndex := 7, descriptorIndex := 8, attributes := #[] }, { accessFlags := 9, nameIndex := 198, descriptorIndex := 335, attributes := #[] }] 49 4 #[] #[{ accessFlags := 25, nameIndex := 354, descriptorIndex := 339, attributes := #[] }, { accessFlags := 25, nameIndex := 358, descriptorIndex := 339, attributes := #[] }, { accessFlags := 25, nameIndex := 361, descriptorIndex := 339, attributes := #[] }, { accessFlags := 26, nameIndex := 364, descriptorIndex := 339, attributes := #[] }, { accessFlags := 26, nameIndex := 365, descriptorIndex := 339, attributes := #[] }, { accessFlags := 26, nameIndex := 172, descriptorIndex := 173, attributes := #[] }, { accessFlags := 26, nameIndex := 176, descriptorIndex := 173, attributes := #[] }, { accessFlags := 8, nameIndex := 344, descriptorIndex := 339, attributes := #[] }, { accessFlags := 8, nameIndex := 338, descriptorIndex := 339, attributes := #[] }, { accessFlags := 4120, nameIndex := 245, descriptorIndex := 246, attributes := #[] }])
  fields := #[{ name := "E", type := .double, accessFlags := 25, slot := 0, constantValue := 0 }, { name := "PI", type := .double, accessFlags := 25, slot := 1, constantValue := 0 }, { name := "TAU", type := .double, accessFlags := 25, slot := 2, constantValue := 0 }, { name := "DEGREES_TO_RADIANS", type := .double, accessFlags := 26, slot := 3, constantValue := 0 }, { name := "RADIANS_TO_DEGREES", type := .double, accessFlags := 26, slot := 4, constantValue := 0 }, { name := "negativeZeroFloatBits", type := .long, accessFlags := 26, slot := 5, constantValue := 0 }, { name := "negativeZeroDoubleBits", type := .long, accessFlags := 26, slot := 6, constantValue := 0 }, { name := "twoToTheDoubleScaleUp", type := .double, accessFlags := 8, slot := 7, constantValue := 0 }, { name := "twoToTheDoubleScaleDown", type := .double, accessFlags := 8, slot := 8, constantValue := 0 }, { name := "$assertionsDisabled", type := .boolean, accessFlags := 4120, slot := 9, constantValue := 0 }]
  methods := #[k9m0, k9m1]
  instanceTypes := #[]
  staticTypes := #[.double, .double, .double, .double, .double, .long, .long, .double, .double, .boolean]
  resolved := Array.replicate 460 none
  statics := none }

def pool10 : Array CpInfo := pool [(2, .class_ 4), (1, u "java/lang/Object"), (0, u "<init>"), (0, u "()V"), (1, .class_ 10), (1, u "java/lang/System"), (0, u "allowSecurityManager"), (0, u "I"), (16, u "cons"), (0, u "Ljava/io/Console;"), (77, .class_ 110), (1, u "java/lang/System$CallersHolder"), (43, u "initialErrStream"), (0, u "Ljava/io/PrintStream;"), (19, u "security"), (0, u "Ljava/lang/SecurityManager;"), (31, .class_ 209), (0, u "java/lang/System$1"), (7, u "props"), (0, u "Ljava/util/Properties;"), (2, u "lineSeparator"), (0, u "Ljava/lang/String;"), (96, .class_ 321), (1, u "java/lang/System$LoggerFinder"), (5, .class_ 328), (0, u "java/lang/System$Logger"), (67, u "err"), (2, u "out"), (91, u "notSupportedJnuEncoding"), (15, u "in"), (17, u "initialIn"), (0, u "Ljava/io/InputStream;"), (35, u "bootLayer"), (0, u "Ljava/lang/ModuleLayer;"), (99, .class_ 664), (0, u "java/lang/System$2"), (9, u "NEVER"), (2, u "MAYBE"), (49, u "arraycopy"), (0, u "(Ljava/lang/Object;ILjava/lang/Object;II)V"), (72, .class_ 802), (0, u "java/lang/System$Logger$Level")] 31

def k10m0 : Method := { name := "<init>", desc := "()V", sig := { parameters := [], returnType := none }, accessFlags := 2, code := none }
def k10m1 : Method := { name := "arraycopy", desc := "(Ljava/lang/Object;ILjava/lang/Object;II)V", sig := { parameters := [(.object "java/lang/Object"), .int, (.object "java/lang/Object"), .int, .int], returnType := none }, accessFlags := 265, code := none }
/-- java/lang/System -/
def k10 : Class := { plain "java/lang/System" (some 0) with
  accessFlags := 49
  interfaces := #[]
  cf := some (fileOf pool10 8 #[.nestMembers #[319, 327, 801, 108, 663, 208]] #[{ accessFlags := 2, nameIndex := 5, descriptorIndex := 6, attributes := #[] }, { accessFlags := 265, nameIndex := 727, descriptorIndex := 728, attributes := #[] }] 49 2 #[] #[{ accessFlags := 25, nameIndex := 507, descriptorIndex := 526, attributes := #[] }, { accessFlags := 25, nameIndex := 399, descriptorIndex := 155, attributes := #[] }, { accessFlags := 25, nameIndex := 396, descriptorIndex := 155, attributes := #[] }, { accessFlags := 10, nameIndex := 525, descriptorIndex := 526, attributes := #[] }, { accessFlags := 26, nameIndex := 674, descriptorIndex := 12, attributes := #[] }, { accessFlags := 26, nameIndex := 677, descriptorIndex := 12, attributes := #[] }, { accessFlags := 10, nameIndex := 11, descriptorIndex := 12, attributes := #[] }, { accessFlags := 74, nameIndex := 175, descriptorIndex := 176, attributes := #[] }, { accessFlags := 10, nameIndex := 491, descriptorIndex := 222, attributes := #[] }, { accessFlags := 74, nameIndex := 29, descriptorIndex := 30, attributes := #[] }, { accessFlags := 74, nameIndex := 154, descriptorIndex := 155, attributes := #[] }, { accessFlags := 10, nameIndex := 217, descriptorIndex := 218, attributes := #[] }, { accessFlags := 10, nameIndex := 221, descriptorIndex := 222, attributes := #[] }, { accessFlags := 8, nameIndex := 562, descriptorIndex := 563, attributes := #[] }])
  fields := #[{ name := "in", type := (.object "java/io/InputStream"), accessFlags := 25, slot := 0, constantValue := 0 }, { name := "out", type := (.object "java/io/PrintStream"), accessFlags := 25, slot := 1, constantValue := 0 }, { name := "err", type := (.object "java/io/PrintStream"), accessFlags := 25, slot := 2, constantValue := 0 }, { name := "initialIn", type := (.object "java/io/InputStream"), accessFlags := 10, slot := 3, constantValue := 0 }, { name := "NEVER", type := .int, accessFlags := 26, slot := 4, constantValue := 0 }, { name := "MAYBE", type := .int, accessFlags := 26, slot := 5, constantValue := 0 }, { name := "allowSecurityManager", type := .int, accessFlags := 10, slot := 6, constantValue := 0 }, { name := "security", type := (.object "java/lang/SecurityManager"), accessFlags := 74, slot := 7, constantValue := 0 }, { name := "notSupportedJnuEncoding", type := (.object "java/lang/String"), accessFlags := 10, slot := 8, constantValue := 0 }, { name := "cons", type := (.object "java/io/Console"), accessFlags := 74, slot := 9, constantValue := 0 }, { name := "initialErrStream", type := (.object "java/io/PrintStream"), accessFlags := 74, slot := 10, constantValue := 0 }, { name := "props", type := (.object "java/util/Properties"), accessFlags := 10, slot := 11, constantValue := 0 }, { name := "lineSeparator", type := (.object "java/lang/String"), accessFlags := 10, slot := 12, constantValue := 0 }, { name := "bootLayer", type := (.object "java/lang/ModuleLayer"), accessFlags := 8, slot := 13, constantValue := 0 }]
  methods := #[k10m0, k10m1]
  instanceTypes := #[]
  staticTypes := #[(.object "java/io/InputStream"), (.object "java/io/PrintStream"), (.object "java/io/PrintStream"), (.object "java/io/InputStream"), .int, .int, .int, (.object "java/lang/SecurityManager"), (.object "java/lang/String"), (.object "java/io/Console"), (.object "java/io/PrintStream"), (.object "java/util/Properties"), (.object "java/lang/String"), (.object "java/lang/ModuleLayer")]
  resolved := Array.replicate 834 none
  statics := none }

def pool11 : Array CpInfo := pool [(1, u "java/lang/Cloneable"), (0, .class_ 1), (0, u "java/lang/Object"), (0, .class_ 3)] 3

/-- java/lang/Cloneable -/
def k11 : Class := { plain "java/lang/Cloneable" (some 0) with
  accessFlags := 1537
  interfaces := #[]
  cf := some (fileOf pool11 2 #[] #[] 1537 4 #[] #[])
  fields := #[]
  methods := #[]
  instanceTypes := #[]
  staticTypes := #[]
  resolved := Array.replicate 8 none
  statics := none }

/-- the primitive byte -/
def k12 : Class := { plain "byte" none with kind := .primitive 'B', accessFlags := 0x411 }
/-- [B -/
def k13 : Class := { plain "[B" (some 0) with kind := .array 12 .byte, interfaces := #[11, 4], accessFlags := 1041 }

/-- the primitive int -/
def k14 : Class := { plain "int" none with kind := .primitive 'I', accessFlags := 0x411 }
/-- [I -/
def k15 : Class := { plain "[I" (some 0) with kind := .array 14 .int, interfaces := #[11, 4], accessFlags := 1041 }

/-- the primitive long -/
def k16 : Class := { plain "long" none with kind := .primitive 'J', accessFlags := 0x411 }
/-- [J -/
def k17 : Class := { plain "[J" (some 0) with kind := .array 16 .long, interfaces := #[11, 4], accessFlags := 1041 }

/-- [Lcom/example/srok/srok/engine/PriceLevel; -/
def k18 : Class := { plain "[Lcom/example/srok/srok/engine/PriceLevel;" (some 0) with kind := .array 8 (.object "com/example/srok/srok/engine/PriceLevel"), interfaces := #[11, 4], accessFlags := 1041 }

def heap : Heap := #[{ cls := 6, slots := #[.ref 1, .ref 2, .null], vm := .statics 6 },
  { cls := 6, slots := #[.null, .int 0, .int 0, .null], vm := .none },
  { cls := 6, slots := #[.null, .int 1, .int 0, .null], vm := .none }]
def classes : Array Class := #[k0, k1, k2, k3, k4, k5, k6, k7, k8, k9, k10, k11, k12, k13, k14, k15, k16, k17, k18]
def interned : List (Array UInt16 × Addr) := []
def slotsUsed : Nat := 11
def theMethod : MethodId := ⟨1, 3⟩
def args0 : Array Value := #[.int 5, .long 5, .long 5, .long 5]
def aboutOver (below : List Frame) : State where
  vm := { classes := classes, interned := interned.toArray }
  heap := heap
  slotsUsed := slotsUsed
  threads := #[{ frames := .invoking theMethod args0 :: below }]
def below0 : List Frame := [.native { method := ⟨0, 0⟩, args := #[] }]
def about1 : State := aboutOver below0
def p0 : Program := .bare "" "" ""
def e0 : Env := launch0.env 0 0 0
theorem w_frames : about1.frames = Frame.invoking theMethod args0 :: below0 := rfl
set_option maxRecDepth 65536 in
theorem w_args : argsFit about1.vm theMethod args0 = true := by decide +kernel
set_option maxRecDepth 65536 in
theorem w_heap : heapFits about1 = true := by decide +kernel
set_option maxRecDepth 65536 in
theorem w_runnable : about1.curStatus? = some .runnable := by decide +kernel
set_option maxRecDepth 65536 in
theorem w_alone : about1.alone = true := by decide +kernel
set_option maxRecDepth 65536 in
theorem w_named : about1.methodNamed? x = some theMethod := by decide +kernel
set_option maxRecDepth 65536 in
theorem w_hears : about1.hears theMethod below0 = true := by decide +kernel
set_option maxRecDepth 65536 in
theorem w_ripe : about1.ripe theMethod args0 below0 = true := by decide +kernel
theorem w_running : about1.status = .running := rfl
set_option maxRecDepth 65536 in
theorem w_room : about1.hasRoom e0.platform room_1 = true :=
  launch0.hasRoom_least _ room_1 (by decide +kernel) (by decide +kernel) (by decide +kernel) (by decide +kernel) (by decide +kernel) (by decide +kernel)
theorem allAtoms_all (ts : List Jvm.Cond) (a : Array Jvm.Value) (st : Jvm.State) : (allAtoms ts).before a st = ts.all (fun c => c.before a st) := by
  induction ts with
  | nil => rfl
  | cons c t ih =>
    show (Jvm.Cond.and c (allAtoms t)).before a st = _
    rw [Jvm.Cond.before_and, ih, List.all_cons]
def words1 : List Jvm.Cond := Jvm.Cond.code x code maxLocals ret :: tables_1
/-- a 'code' word, met by the world's own term for the bytes: nothing is compared byte by byte -/
theorem code_word {y : MethodName} {bytes : ByteArray} {mx : Nat} {rt : Option FieldType} {a : Array Value} {s : State} {m : MethodId} {meth : Method} {c : Code} (h1 : s.methodNamed? y = some m) (h2 : s.vm.method? m = some meth) (h3 : meth.code = some c) (h4 : c.code = bytes)
    (h5 : (c.maxLocals == mx && c.exceptionTable.isEmpty && decide (c.maxStack ≤ mostOperands) && decide (meth.sig.returnType = rt) && !meth.locks && decide (parseMethodDescriptor y.desc = some meth.sig)) = true) : (Jvm.Cond.code y bytes mx rt).before a s = true := by
  simp only [Bool.and_eq_true, beq_iff_eq, Bool.not_eq_true', decide_eq_true_eq] at h5
  obtain ⟨⟨⟨⟨⟨g1, g2⟩, g3⟩, g4⟩, g5⟩, g6⟩ := h5
  simp [Cond.before, Cond.holds, Cond.value, h1, h2, h3, h4, g1, g2, g3, g4, g5, g6]
def isCode : Jvm.Cond → Bool
  | .code _ _ _ _ => true
  | _ => false
theorem all_split {L : List Jvm.Cond} {P : Jvm.Cond → Bool} (h1 : L.all (fun c => isCode c || P c) = true) (h2 : ∀ c ∈ L.filter isCode, P c = true) : L.all P = true := by
  refine List.all_eq_true.mpr fun c hc => ?_
  have h := List.all_eq_true.mp h1 c hc
  rcases Bool.eq_false_or_eq_true (isCode c) with hi | hi
  · exact h2 c (List.mem_filter.mpr ⟨hc, hi⟩)
  · simpa [hi] using h
set_option maxRecDepth 65536 in
theorem w_c0 : (Jvm.Cond.code x code maxLocals ret).before args0 about1 = true := code_word (m := ⟨1, 3⟩) (meth := k1m3) (c := k1c3) (by decide +kernel) rfl rfl rfl (by decide +kernel)
set_option maxRecDepth 65536 in
theorem w_c1 : (Jvm.Cond.code ({ cls := "com/example/srok/srok/engine/BookSideBestPinLaw", name := "inward", desc := "(J)J" } : Jvm.MethodName) method_2_code (2 : Nat) (Option.some Jvm.ClassFile.FieldType.long)).before args0 about1 = true := code_word (m := ⟨1, 1⟩) (meth := k1m1) (c := k1c1) (by decide +kernel) rfl rfl rfl (by decide +kernel)
set_option maxRecDepth 65536 in
theorem w_c2 : (Jvm.Cond.code ({ cls := "com/example/srok/srok/engine/BookSide", name := "<init>", desc := "(Lcom/example/srok/srok/engine/Side;)V" } : Jvm.MethodName) prog_2_method_1_code (2 : Nat) (Option.none : Option Jvm.ClassFile.FieldType)).before args0 about1 = true := code_word (m := ⟨7, 0⟩) (meth := k7m0) (c := k7c0) (by decide +kernel) rfl rfl rfl (by decide +kernel)
set_option maxRecDepth 65536 in
theorem w_c3 : (Jvm.Cond.code ({ cls := "java/lang/Object", name := "<init>", desc := "()V" } : Jvm.MethodName) object_method_1_code (1 : Nat) (Option.none : Option Jvm.ClassFile.FieldType)).before args0 about1 = true := code_word (m := ⟨0, 0⟩) (meth := k0m0) (c := k0c0) (by decide +kernel) rfl rfl rfl (by decide +kernel)
set_option maxRecDepth 65536 in
theorem w_c4 : (Jvm.Cond.code ({ cls := "com/example/srok/srok/engine/BookSide", name := "best", desc := "()Lcom/example/srok/srok/engine/PriceLevel;" } : Jvm.MethodName) prog_2_method_3_code (1 : Nat) (Option.some (Jvm.ClassFile.FieldType.object "com/example/srok/srok/engine/PriceLevel"))).before args0 about1 = true := code_word (m := ⟨7, 1⟩) (meth := k7m1) (c := k7c1) (by decide +kernel) rfl rfl rfl (by decide +kernel)
set_option maxRecDepth 65536 in
theorem w_c5 : (Jvm.Cond.code ({ cls := "com/example/srok/srok/engine/BookSide", name := "levelFor", desc := "(JLjava/math/BigDecimal;)Lcom/example/srok/srok/engine/PriceLevel;" } : Jvm.MethodName) prog_2_method_5_code (7 : Nat) (Option.some (Jvm.ClassFile.FieldType.object "com/example/srok/srok/engine/PriceLevel"))).before args0 about1 = true := code_word (m := ⟨7, 2⟩) (meth := k7m2) (c := k7c2) (by decide +kernel) rfl rfl rfl (by decide +kernel)
set_option maxRecDepth 65536 in
theorem w_c6 : (Jvm.Cond.code ({ cls := "com/example/srok/srok/engine/BookSide", name := "indexOf", desc := "(JLjava/math/BigDecimal;)I" } : Jvm.MethodName) prog_2_method_8_code (11 : Nat) (Option.some Jvm.ClassFile.FieldType.int)).before args0 about1 = true := code_word (m := ⟨7, 4⟩) (meth := k7m4) (c := k7c4) (by decide +kernel) rfl rfl rfl (by decide +kernel)
set_option maxRecDepth 65536 in
theorem w_c7 : (Jvm.Cond.code ({ cls := "com/example/srok/srok/engine/BookSide", name := "rank", desc := "(J)J" } : Jvm.MethodName) prog_2_method_7_code (3 : Nat) (Option.some Jvm.ClassFile.FieldType.long)).before args0 about1 = true := code_word (m := ⟨7, 3⟩) (meth := k7m3) (c := k7c3) (by decide +kernel) rfl rfl rfl (by decide +kernel)
set_option maxRecDepth 65536 in
theorem w_c8 : (Jvm.Cond.code ({ cls := "java/lang/Math", name := "max", desc := "(II)I" } : Jvm.MethodName) jdk_29_method_65_code (2 : Nat) (Option.some Jvm.ClassFile.FieldType.int)).before args0 about1 = true := code_word (m := ⟨9, 1⟩) (meth := k9m1) (c := k9c1) (by decide +kernel) rfl rfl rfl (by decide +kernel)
set_option maxRecDepth 65536 in
theorem w_c9 : (Jvm.Cond.code ({ cls := "com/example/srok/srok/engine/PriceLevel", name := "<init>", desc := "(Ljava/math/BigDecimal;J)V" } : Jvm.MethodName) prog_14_method_1_code (4 : Nat) (Option.none : Option Jvm.ClassFile.FieldType)).before args0 about1 = true := code_word (m := ⟨8, 0⟩) (meth := k8m0) (c := k8c0) (by decide +kernel) rfl rfl rfl (by decide +kernel)
set_option maxRecDepth 65536 in
theorem w_c10 : (Jvm.Cond.code ({ cls := "com/example/srok/srok/engine/BookSideBestPinLaw", name := "better", desc := "(ZJJ)Z" } : Jvm.MethodName) method_3_code (5 : Nat) (Option.some Jvm.ClassFile.FieldType.boolean)).before args0 about1 = true := code_word (m := ⟨1, 2⟩) (meth := k1m2) (c := k1c2) (by decide +kernel) rfl rfl rfl (by decide +kernel)
set_option maxRecDepth 65536 in
theorem w_c11 : (Jvm.Cond.code ({ cls := "com/example/srok/srok/engine/PriceLevel", name := "isEmpty", desc := "()Z" } : Jvm.MethodName) prog_14_method_4_code (1 : Nat) (Option.some Jvm.ClassFile.FieldType.boolean)).before args0 about1 = true := code_word (m := ⟨8, 1⟩) (meth := k8m1) (c := k8c1) (by decide +kernel) rfl rfl rfl (by decide +kernel)
def codes1 : List Jvm.Cond := [Jvm.Cond.code x code maxLocals ret, Jvm.Cond.code ({ cls := "com/example/srok/srok/engine/BookSideBestPinLaw", name := "inward", desc := "(J)J" } : Jvm.MethodName) method_2_code (2 : Nat) (Option.some Jvm.ClassFile.FieldType.long), Jvm.Cond.code ({ cls := "com/example/srok/srok/engine/BookSide", name := "<init>", desc := "(Lcom/example/srok/srok/engine/Side;)V" } : Jvm.MethodName) prog_2_method_1_code (2 : Nat) (Option.none : Option Jvm.ClassFile.FieldType), Jvm.Cond.code ({ cls := "java/lang/Object", name := "<init>", desc := "()V" } : Jvm.MethodName) object_method_1_code (1 : Nat) (Option.none : Option Jvm.ClassFile.FieldType), Jvm.Cond.code ({ cls := "com/example/srok/srok/engine/BookSide", name := "best", desc := "()Lcom/example/srok/srok/engine/PriceLevel;" } : Jvm.MethodName) prog_2_method_3_code (1 : Nat) (Option.some (Jvm.ClassFile.FieldType.object "com/example/srok/srok/engine/PriceLevel")), Jvm.Cond.code ({ cls := "com/example/srok/srok/engine/BookSide", name := "levelFor", desc := "(JLjava/math/BigDecimal;)Lcom/example/srok/srok/engine/PriceLevel;" } : Jvm.MethodName) prog_2_method_5_code (7 : Nat) (Option.some (Jvm.ClassFile.FieldType.object "com/example/srok/srok/engine/PriceLevel")), Jvm.Cond.code ({ cls := "com/example/srok/srok/engine/BookSide", name := "indexOf", desc := "(JLjava/math/BigDecimal;)I" } : Jvm.MethodName) prog_2_method_8_code (11 : Nat) (Option.some Jvm.ClassFile.FieldType.int), Jvm.Cond.code ({ cls := "com/example/srok/srok/engine/BookSide", name := "rank", desc := "(J)J" } : Jvm.MethodName) prog_2_method_7_code (3 : Nat) (Option.some Jvm.ClassFile.FieldType.long), Jvm.Cond.code ({ cls := "java/lang/Math", name := "max", desc := "(II)I" } : Jvm.MethodName) jdk_29_method_65_code (2 : Nat) (Option.some Jvm.ClassFile.FieldType.int), Jvm.Cond.code ({ cls := "com/example/srok/srok/engine/PriceLevel", name := "<init>", desc := "(Ljava/math/BigDecimal;J)V" } : Jvm.MethodName) prog_14_method_1_code (4 : Nat) (Option.none : Option Jvm.ClassFile.FieldType), Jvm.Cond.code ({ cls := "com/example/srok/srok/engine/BookSideBestPinLaw", name := "better", desc := "(ZJJ)Z" } : Jvm.MethodName) method_3_code (5 : Nat) (Option.some Jvm.ClassFile.FieldType.boolean), Jvm.Cond.code ({ cls := "com/example/srok/srok/engine/PriceLevel", name := "isEmpty", desc := "()Z" } : Jvm.MethodName) prog_14_method_4_code (1 : Nat) (Option.some Jvm.ClassFile.FieldType.boolean)]
set_option maxRecDepth 65536 in
theorem codes_eq : words1.filter isCode = codes1 := rfl
theorem w_codes : ∀ c ∈ words1.filter isCode, c.before args0 about1 = true := by
  rw [codes_eq]
  intro c hc
  simp only [codes1, List.mem_cons, List.not_mem_nil, or_false] at hc
  rcases hc with rfl | rfl | rfl | rfl | rfl | rfl | rfl | rfl | rfl | rfl | rfl | rfl
  · exact w_c0
  · exact w_c1
  · exact w_c2
  · exact w_c3
  · exact w_c4
  · exact w_c5
  · exact w_c6
  · exact w_c7
  · exact w_c8
  · exact w_c9
  · exact w_c10
  · exact w_c11
set_option maxRecDepth 65536 in
theorem w_t1 : (words1.take 24).all (fun c => isCode c || c.before args0 about1) = true := by decide +kernel
set_option maxRecDepth 65536 in
theorem w_t2 : ((words1.drop 24).take 24).all (fun c => isCode c || c.before args0 about1) = true := by decide +kernel
set_option maxRecDepth 65536 in
theorem w_t3 : (((words1.drop 24).drop 24).take 24).all (fun c => isCode c || c.before args0 about1) = true := by decide +kernel
set_option maxRecDepth 65536 in
theorem w_t4 : (((words1.drop 24).drop 24).drop 24).all (fun c => isCode c || c.before args0 about1) = true := by decide +kernel
theorem w_tables : (allAtoms (Jvm.Cond.code x code maxLocals ret :: tables_1)).before args0 about1 = true := by
  rw [allAtoms_all]
  show words1.all (fun c => c.before args0 about1) = true
  refine all_split ?_ w_codes
  rw [← List.take_append_drop 24 words1, List.all_append, w_t1, ← List.take_append_drop 24 (words1.drop 24), List.all_append, w_t2, ← List.take_append_drop 24 ((words1.drop 24).drop 24), List.all_append, w_t3, w_t4]
  rfl
set_option maxRecDepth 65536 in
theorem w_case : (Jvm.Cond.and given_1 narrow_1).before args0 about1 = true := by decide +kernel
theorem w_applies : (headSpec (Jvm.Cond.code x code maxLocals ret :: tables_1) room_1).applies x e0.platform about1 = true :=
  (Spec.applies_iff w_frames).mpr ⟨w_running, w_runnable, w_alone, w_named, w_hears, w_ripe, w_room, w_tables⟩
theorem atStart : AtStart classFile x code maxLocals ret World_1 tables_1 room_1 Calls_1 rest_1 Pre_1 launch0 p0 e0 about1 theMethod args0 below0 :=
  ⟨lists_1, trivial, launch0.admits_env _ _ _, launch0.least_env, fairChoices_fair.cas, fairChoices_fair.clock, w_frames, w_args, w_heap, w_applies, trivial, trivial, w_case⟩
end start1
theorem witness_1 : WitnessClaimed_1 := ⟨start1.p0, start1.e0, start1.about1, start1.theMethod, start1.args0, start1.below0, start1.atStart⟩
end Jvm.Pilot.@@N@@
