import JvmDerived
import JvmDerived.Pilot.@@N@@Statement
import JvmDerived.Pilot.@@N@@Code
set_option linter.unusedVariables false
set_option linter.unusedSimpArgs false
namespace Jvm.RoadKit
open Sem ClassFile Op Lib Jvm.Stand Jvm.Free Jvm.LawKit
section New
variable {p : Program} {l : Launch} {e : Env} {R : Room} {s : State} {m : MethodId} {args : Array Value} {below : List Frame} {meth : Method} {c : Code} {T : State} {locs : List Loc} {cells slots : Nat}
theorem retI (X : Stand p l e R s m args below meth c T locs cells slots) (hx : p.tables.exec = Jvm.exec) {pc : Nat} {Ls : Array Slot} {z : Int32} {rest : List Value} (hret : meth.sig.returnType = some .int) (hd : decode c.code pc = .ok (.ireturn, 1)) {fs : List Frame}
    (hl : ∀ (f : JFrame) (acts : List Action), f.method = m → f.locked = none → f.entered = [] → (doReturn e (T.setTop f) acts (some (.int z))).1 = T.setFrames fs) : Steps p.tables e below (T.setTop (mkF m pc Ls (.int z :: rest))) (T.setFrames fs) := by
  have hm' : T.vm.method? m = some meth := X.method'
  have hn : narrow .int (.int z) = .int z := rfl
  show Steps p.tables e below (T.setTop { method := m, pc := pc, locals := Ls, stack := _ :: rest, locked := none }) _
  jvm_step X.here [X.here.top, hx, hd, hm', hret, hn]
  first | (intro acts; rw [hl _ acts rfl rfl rfl]) | rw [hl _ _ rfl rfl rfl]
  exact Steps.refl _
end New
/-! the walk's own frame: a goal that is met by going on -/
section Own
variable {tb : Tables} {e : Env} {below : List Frame} {R : State → Outcome → Prop} {U U' T : State}
def own_G (tb : Tables) (e : Env) (below : List Frame) (R : State → Outcome → Prop) (U : State) : Prop := ∃ f o, Steps tb e below U f ∧ R f o
theorem own_pre {g g' : JFrame} (q : g = g') (h : own_G tb e below R (T.setTop g')) : ∃ f o, Steps tb e below (T.setTop g) f ∧ R f o := by rw [q]; exact h
theorem own_go (st : ∀ t, Steps tb e below U' t → Steps tb e below U t) (h : own_G tb e below R U') : own_G tb e below R U := by
  obtain ⟨f, o, h1, h2⟩ := h; exact ⟨f, o, st _ h1, h2⟩
theorem own_out (h : ∃ f o, Steps tb e below U f ∧ R f o) : own_G tb e below R U := h
end Own
section OwnFacts
variable {Z : State} {h h' : Heap} {a : Addr} {ws : List Addr} {C n d : String} {v : Value} {b : Bool}
def own_NS (h : Heap) (a : Addr) : Prop := ∃ c : Cell, h[a]? = some c ∧ c.vm.isStatics = false
theorem own_nsE (F : Exa Z h a C) : own_NS h a := by obtain ⟨c, k, h1, -, -, h4, -⟩ := F; exact ⟨c, h1, h4⟩
theorem own_nsF (F : Fld Z h a C n d v) : own_NS h a := by obtain ⟨c, _, _, _, _, h1, -, -, -, h5, -⟩ := F; exact ⟨c, h1, h5⟩
theorem own_nsV {k : ClassId} {ty : FieldType} {z : Int32} {vs : List Value} {dv : Value} (F : Arv Z h a k ty z vs dv) : own_NS h a := by obtain ⟨c, A, -⟩ := F; exact ⟨c, A.1, A.plain⟩
theorem own_staK (F : Sta Z h C n d v) (K : Keep h h' ws) (q : ∀ x ∈ ws, own_NS h x) : Sta Z h' C n d v := by
  obtain ⟨cf, i, k, f, st, cell, h1, h2, h3, h4, h5, h6, h7⟩ := F
  refine ⟨cf, i, k, f, st, cell, h1, h2, h3, h4, K.2.1 st cell h5 (fun hm => ?_), h6, h7⟩
  obtain ⟨c, e1, e2⟩ := q st hm
  cases h5.symm.trans e1
  rw [e2] at h6; cases h6
theorem own_insK (F : Ins Z h a C b) (K : Keep h h' ws) : Ins Z h' a C b := by
  obtain ⟨cell, cT, h1, h2, h3⟩ := F
  obtain ⟨c', e1, e2, e3, -⟩ := K.2.2 a cell h1
  exact ⟨c', cT, e1, h2, by rw [e2, e3]; exact h3⟩
theorem own_selP {s : State} {args : Array Value} {y : MethodName} {k : Nat} (wi : (Cond.instantiable y.cls k).before args s = true) (wp : (Cond.privateMethod y).before args s = true) (hi : (Cond.instanceMethod y).before args s = true) (hy : y.cls ≠ "java/lang/invoke/MethodHandle" ∧ y.cls ≠ "java/lang/invoke/VarHandle") : (Cond.selects y.cls y y).before args s = true := by
  obtain ⟨c, k, h1, h2, -, h4, -⟩ := Cond.instantiable_spec wi
  exact selects_self_of_private h1 h2 (by simp only [Bool.or_eq_false_iff] at h4; exact h4.1) (Cond.privateMethod_at wp) hi hy
theorem own_xnJ (x : Int64) : (x ^^^ (-1 : Int64)).toInt = -1 - x.toInt := by
  have h : x ^^^ (-1 : Int64) = ~~~ x := by
    rw [← Int64.toBitVec_inj]; simp
  rw [h]
  show (~~~ x.toBitVec).toInt = -1 - x.toBitVec.toInt
  rw [BitVec.toInt_not]
  have h1 := x.toBitVec.isLt
  rw [BitVec.toInt_eq_toNat_bmod]
  simp only [Int.bmod]
  split <;> split <;> omega
theorem own_insLt (F : Ins Z h a C b) : a < h.size := by obtain ⟨_, _, h1, -⟩ := F; exact (Array.getElem?_eq_some_iff.mp h1).1
variable {args : Array Value} {t u : Term} {x : Addr}
theorem own_fldI {k : Int32} (ev : t.eval args Z none [] Z = some (.ref x)) (hh : (Cond.eq (.field t C n d) (.int k)).value args Z none Z [] = some true) : Fld Z Z.heap x C n d (.int k) := by
  refine Fld.start ?_
  obtain ⟨y, w, e1, e2, k1, -⟩ := cmp_v (Or.inl hh)
  cases (Term.int_eval k).symm.trans e2
  rw [fld_at ev] at e1
  cases y <;> simp [Kin, Value.isRef] at k1
  rename_i q
  have e3 : (Term.field t C n d).eval args Z none [] Z = some (.int q) := by rw [fld_at ev]; exact e1
  simp [Cond.value, e3, Term.int_eval] at hh
  rw [e1, hh]
theorem own_fldJ {k : Int64} (ev : t.eval args Z none [] Z = some (.ref x)) (hh : (Cond.eq (.field t C n d) (.long k)).value args Z none Z [] = some true) : Fld Z Z.heap x C n d (.long k) := by
  refine Fld.start ?_
  obtain ⟨y, w, e1, e2, k1, -⟩ := cmp_v (Or.inl hh)
  cases (long_at k).symm.trans e2
  rw [fld_at ev] at e1
  cases y <;> simp [Kin, Value.isRef] at k1
  rename_i q
  have e3 : (Term.field t C n d).eval args Z none [] Z = some (.long q) := by rw [fld_at ev]; exact e1
  have e4 := gotT (eq_L e3 (long_at k)) hh
  rw [e1, e4]
theorem own_fldR {y : Addr} (ev : t.eval args Z none [] Z = some (.ref x)) (e2 : (Term.field t C n d).eval args Z none [] Z = some (.ref y)) : Fld Z Z.heap x C n d (.ref y) := Fld.start (by rw [← fld_at ev]; exact e2)
theorem own_len {cl : Cell} {ty : FieldType} {k : Int32} (ev : t.eval args Z none [] Z = some (.ref x)) (A : Arr Z Z.heap x cl ty) (hh : (Cond.eq (.length t) (.int k)).value args Z none Z [] = some true) : cl.slots.size < 2 ^ 31 ∧ cl.slots.size.toInt32 = k := by
  obtain ⟨y, w, e1, e2, k1, -⟩ := cmp_v (Or.inl hh)
  cases (Term.int_eval k).symm.trans e2
  have hA := A.fin (Vm.Alike.refl _)
  have hl : cl.slots.size < 2 ^ 31 := by
    rcases Nat.lt_or_ge cl.slots.size (2 ^ 31) with q | q
    · exact q
    · simp [Term.eval, ev, hA, Nat.not_lt.mpr q] at e1
  refine ⟨hl, ?_⟩
  have e3 := len_f ev hA hl
  simp [Cond.value, e3, Term.int_eval] at hh
  exact hh
theorem own_elI {cl : Cell} {ty : FieldType} {i k : Int32} (ev : t.eval args Z none [] Z = some (.ref x)) (A : Arr Z Z.heap x cl ty) (hh : (Cond.eq (.elem t (.int i)) (.int k)).value args Z none Z [] = some true) : cl.slots[i.toNatClampNeg]? = some (.int k) := by
  obtain ⟨y, w, e1, e2, k1, -⟩ := cmp_v (Or.inl hh)
  cases (Term.int_eval k).symm.trans e2
  cases y <;> simp [Kin, Value.isRef] at k1
  rename_i q
  simp [Cond.value, e1, Term.int_eval] at hh
  rw [← hh]; exact (elem_in e1 ev (Term.int_eval i) A.1).2
theorem own_elR {cl : Cell} {ty : FieldType} {i : Int32} {y : Addr} (ev : t.eval args Z none [] Z = some (.ref x)) (eu : u.eval args Z none [] Z = some (.ref y)) (A : Arr Z Z.heap x cl ty) (hh : (Cond.eq (.elem t (.int i)) u).value args Z none Z [] = some true) : cl.slots[i.toNatClampNeg]? = some (.ref y) := by
  obtain ⟨p, w, e1, e3, k1, k2⟩ := cmp_v (Or.inl hh)
  cases eu.symm.trans e3
  have k3 := gotT (eq_R e1 eu k2.2 rfl) hh
  rw [← k3]; exact (elem_in e1 ev (Term.int_eval i) A.1).2
theorem own_eqR {y : Addr} (e2 : u.eval args Z none [] Z = some (.ref y)) (hh : (Cond.eq t u).value args Z none Z [] = some true) : t.eval args Z none [] Z = some (.ref y) := by
  obtain ⟨p, w, e1, e3, k1, k2⟩ := cmp_v (Or.inl hh)
  cases e2.symm.trans e3
  have k3 := gotT (eq_R e1 e2 k2.2 rfl) hh
  rw [e1, k3]
end OwnFacts
/-- the cache of Longs: old objects, each with its number -/
def own_LC (Z : State) (h : Heap) (a : Addr) (n : Nat) : Prop := ∃ cl : Cell, Arr Z h a cl (.object "java/lang/Long") ∧ cl.slots.size = (256 : Int32).toNatClampNeg ∧ a < n ∧ ∀ j : Int32, ¬ j < 0 → j < 256 → ∃ b : Addr, cl.slots[j.toNatClampNeg]? = some (.ref b) ∧ b < n ∧ Exa Z h b "java/lang/Long" ∧ Fld Z h b "java/lang/Long" "value" "J" (.long (j - 128).toInt64)
theorem own_LC.keep {Z : State} {h h' : Heap} {a : Addr} {n : Nat} {ws : List Addr} (F : own_LC Z h a n) (K : Keep h h' ws) (q : ∀ x ∈ ws, n ≤ x) : own_LC Z h' a n := by
  obtain ⟨cl, A, S, ha, M⟩ := F
  refine ⟨cl, ⟨K.2.1 a cl A.1 (fun hm => absurd ha (Nat.not_lt.mpr (q a hm))), A.2⟩, S, ha, fun j h0 h1 => ?_⟩
  obtain ⟨b, h2, h3, E, F⟩ := M j h0 h1
  exact ⟨b, h2, h3, E.keep K, F.keep K (fun hm => absurd h3 (Nat.not_lt.mpr (q b hm)))⟩
theorem own_LC.ext {Z : State} {h h' : Heap} {a : Addr} {n : Nat} (F : own_LC Z h a n) (E : Ext h h') : own_LC Z h' a n := F.keep ((Keep.refl h []).ext E) all0
theorem own_lcq {q : Int64} (h1 : ¬ q < (-128 : Int64)) (h2 : ¬ (127 : Int64) < q) : (q.toInt32 + (128 : Int32) - 128).toInt64 = q := by
  have a1 : ¬ q.toInt < -128 := fun e => h1 (Int64.lt_iff_toInt_lt.mpr e)
  have a2 : ¬ 127 < q.toInt := fun e => h2 (Int64.lt_iff_toInt_lt.mpr e)
  refine Int64.toInt_inj.mp ?_
  rw [c_i2l]
  have b1 := c_isub (q.toInt32 + (128 : Int32)) 128; have b2 := c_iadd q.toInt32 128; have b3 := c_l2i q
  have e1 : (128 : Int32).toInt = 128 := by decide
  have r1 := rng32 q.toInt32; have r2 := rng32 (q.toInt32 + (128 : Int32)); have r3 := rng32 (q.toInt32 + (128 : Int32) - 128)
  omega
section OwnLong
open Jvm.Free.XT
variable {x y : Int64}
theorem own_ll_eq_t (h : x = y) : ifCond.holds .eq (lcmpW x y) = true := ll_eq_t h
theorem own_ll_eq_f (h : ¬ x = y) : ifCond.holds .eq (lcmpW x y) = false := ll_eq_f h
theorem own_ll_ne_t (h : ¬ x = y) : ifCond.holds .ne (lcmpW x y) = true := ll_ne_t h
theorem own_ll_ne_f (h : x = y) : ifCond.holds .ne (lcmpW x y) = false := ll_ne_f h
theorem own_ll_lt_t (h : x < y) : ifCond.holds .lt (lcmpW x y) = true := ll_lt_t h
theorem own_ll_lt_f (h : ¬ x < y) : ifCond.holds .lt (lcmpW x y) = false := ll_lt_f h
theorem own_ll_ge_t (h : ¬ x < y) : ifCond.holds .ge (lcmpW x y) = true := ll_ge_t h
theorem own_ll_ge_f (h : x < y) : ifCond.holds .ge (lcmpW x y) = false := ll_ge_f h
theorem own_ll_gt_t (h : y < x) : ifCond.holds .gt (lcmpW x y) = true := ll_gt_t h
theorem own_ll_gt_f (h : ¬ y < x) : ifCond.holds .gt (lcmpW x y) = false := ll_gt_f h
theorem own_ll_le_t (h : ¬ y < x) : ifCond.holds .le (lcmpW x y) = true := ll_le_t h
theorem own_ll_le_f (h : y < x) : ifCond.holds .le (lcmpW x y) = false := ll_le_f h
end OwnLong
section OwnSteps
variable {p : Program} {l : Launch} {e : Env} {R : Room} {s : State} {m : MethodId} {args : Array Value} {below : List Frame} {meth : Method} {c : Code} {T : State} {locs : List Loc} {cells slots : Nat} {bytes : ByteArray} {pc : Nat} {L : Array Slot} {S : List Value} {t : State}

theorem oiload (X : Stand p l e R s m args below meth c T locs cells slots) (hx : p.tables.exec = Jvm.exec) (hby : c.code = bytes) {k : Nat} {v : Int32} (hd : decode bytes pc = .ok (.iload k, 2)) (hl : L[k]? = some (.val (.int v))) (hr : Steps p.tables e below (T.setTop (mkF m (pc + 2) L (.int v :: S))) t) : Steps p.tables e below (T.setTop (mkF m pc L S)) t := XS.iload X.here hx rfl (hb hby hd) hl hr
theorem oiloadN (X : Stand p l e R s m args below meth c T locs cells slots) (hx : p.tables.exec = Jvm.exec) (hby : c.code = bytes) {k : Fin 4} {v : Int32} (hd : decode bytes pc = .ok (.iload_n k, 1)) (hl : L[k.val]? = some (.val (.int v))) (hr : Steps p.tables e below (T.setTop (mkF m (pc + 1) L (.int v :: S))) t) : Steps p.tables e below (T.setTop (mkF m pc L S)) t := XS.iloadN X.here hx rfl (hb hby hd) hl hr
theorem olload (X : Stand p l e R s m args below meth c T locs cells slots) (hx : p.tables.exec = Jvm.exec) (hby : c.code = bytes) {k : Nat} {v : Int64} (hd : decode bytes pc = .ok (.lload k, 2)) (hl : L[k]? = some (.val (.long v))) (hr : Steps p.tables e below (T.setTop (mkF m (pc + 2) L (.long v :: S))) t) : Steps p.tables e below (T.setTop (mkF m pc L S)) t := XS.lload X.here hx rfl (hb hby hd) hl hr
theorem olloadN (X : Stand p l e R s m args below meth c T locs cells slots) (hx : p.tables.exec = Jvm.exec) (hby : c.code = bytes) {k : Fin 4} {v : Int64} (hd : decode bytes pc = .ok (.lload_n k, 1)) (hl : L[k.val]? = some (.val (.long v))) (hr : Steps p.tables e below (T.setTop (mkF m (pc + 1) L (.long v :: S))) t) : Steps p.tables e below (T.setTop (mkF m pc L S)) t := XS.lloadN X.here hx rfl (hb hby hd) hl hr
theorem oaload (X : Stand p l e R s m args below meth c T locs cells slots) (hx : p.tables.exec = Jvm.exec) (hby : c.code = bytes) {k : Nat} {v : Value} (hd : decode bytes pc = .ok (.aload k, 2)) (hl : L[k]? = some (.val v)) (hv : v.isRef = true) (hr : Steps p.tables e below (T.setTop (mkF m (pc + 2) L (v :: S))) t) : Steps p.tables e below (T.setTop (mkF m pc L S)) t := XS.aload X.here hx rfl (hb hby hd) hl hv hr
theorem oaloadN (X : Stand p l e R s m args below meth c T locs cells slots) (hx : p.tables.exec = Jvm.exec) (hby : c.code = bytes) {k : Fin 4} {v : Value} (hd : decode bytes pc = .ok (.aload_n k, 1)) (hl : L[k.val]? = some (.val v)) (hv : v.isRef = true) (hr : Steps p.tables e below (T.setTop (mkF m (pc + 1) L (v :: S))) t) : Steps p.tables e below (T.setTop (mkF m pc L S)) t := XS.aloadN X.here hx rfl (hb hby hd) hl hv hr
theorem oistore (X : Stand p l e R s m args below meth c T locs cells slots) (hx : p.tables.exec = Jvm.exec) (hby : c.code = bytes) {k : Nat} {x : Int32} (hd : decode bytes pc = .ok (.istore k, 2)) (l' : Array Slot) (hl : storeLocals L k (.int x) = some l') (hr : Steps p.tables e below (T.setTop (mkF m (pc + 2) l' S)) t) : Steps p.tables e below (T.setTop (mkF m pc L (.int x :: S))) t := XS.istore X.here hx rfl (hb hby hd) rfl hl hr
theorem oistoreN (X : Stand p l e R s m args below meth c T locs cells slots) (hx : p.tables.exec = Jvm.exec) (hby : c.code = bytes) {k : Fin 4} {x : Int32} (hd : decode bytes pc = .ok (.istore_n k, 1)) (l' : Array Slot) (hl : storeLocals L k.val (.int x) = some l') (hr : Steps p.tables e below (T.setTop (mkF m (pc + 1) l' S)) t) : Steps p.tables e below (T.setTop (mkF m pc L (.int x :: S))) t := XS.istoreN X.here hx rfl (hb hby hd) rfl hl hr
theorem olstore (X : Stand p l e R s m args below meth c T locs cells slots) (hx : p.tables.exec = Jvm.exec) (hby : c.code = bytes) {k : Nat} {x : Int64} (hd : decode bytes pc = .ok (.lstore k, 2)) (l' : Array Slot) (hl : storeLocals L k (.long x) = some l') (hr : Steps p.tables e below (T.setTop (mkF m (pc + 2) l' S)) t) : Steps p.tables e below (T.setTop (mkF m pc L (.long x :: S))) t := XS.lstore X.here hx rfl (hb hby hd) rfl hl hr
theorem olstoreN (X : Stand p l e R s m args below meth c T locs cells slots) (hx : p.tables.exec = Jvm.exec) (hby : c.code = bytes) {k : Fin 4} {x : Int64} (hd : decode bytes pc = .ok (.lstore_n k, 1)) (l' : Array Slot) (hl : storeLocals L k.val (.long x) = some l') (hr : Steps p.tables e below (T.setTop (mkF m (pc + 1) l' S)) t) : Steps p.tables e below (T.setTop (mkF m pc L (.long x :: S))) t := XS.lstoreN X.here hx rfl (hb hby hd) rfl hl hr
theorem oastore (X : Stand p l e R s m args below meth c T locs cells slots) (hx : p.tables.exec = Jvm.exec) (hby : c.code = bytes) {k : Nat} {x : Value} (hd : decode bytes pc = .ok (.astore k, 2)) (l' : Array Slot) (hv : x.isRef = true) (hl : storeLocals L k x = some l') (hr : Steps p.tables e below (T.setTop (mkF m (pc + 2) l' S)) t) : Steps p.tables e below (T.setTop (mkF m pc L (x :: S))) t := XS.astore X.here hx rfl (hb hby hd) rfl hv hl hr
theorem oastoreN (X : Stand p l e R s m args below meth c T locs cells slots) (hx : p.tables.exec = Jvm.exec) (hby : c.code = bytes) {k : Fin 4} {x : Value} (hd : decode bytes pc = .ok (.astore_n k, 1)) (l' : Array Slot) (hv : x.isRef = true) (hl : storeLocals L k.val x = some l') (hr : Steps p.tables e below (T.setTop (mkF m (pc + 1) l' S)) t) : Steps p.tables e below (T.setTop (mkF m pc L (x :: S))) t := XS.astoreN X.here hx rfl (hb hby hd) rfl hv hl hr
theorem oiconst (X : Stand p l e R s m args below meth c T locs cells slots) (hx : p.tables.exec = Jvm.exec) (hby : c.code = bytes) {i : Int} (hd : decode bytes pc = .ok (.iconst i, 1)) (hr : Steps p.tables e below (T.setTop (mkF m (pc + 1) L (.int (Int32.ofInt i) :: S))) t) : Steps p.tables e below (T.setTop (mkF m pc L S)) t := XS.iconst X.here hx rfl (hb hby hd) hr
theorem obipush (X : Stand p l e R s m args below meth c T locs cells slots) (hx : p.tables.exec = Jvm.exec) (hby : c.code = bytes) {i : Int} (hd : decode bytes pc = .ok (.bipush i, 2)) (hr : Steps p.tables e below (T.setTop (mkF m (pc + 2) L (.int (Int8.ofInt i).toInt32 :: S))) t) : Steps p.tables e below (T.setTop (mkF m pc L S)) t := XS.bipush X.here hx rfl (hb hby hd) hr
theorem osipush (X : Stand p l e R s m args below meth c T locs cells slots) (hx : p.tables.exec = Jvm.exec) (hby : c.code = bytes) {i : Int} (hd : decode bytes pc = .ok (.sipush i, 3)) (hr : Steps p.tables e below (T.setTop (mkF m (pc + 3) L (.int (Int16.ofInt i).toInt32 :: S))) t) : Steps p.tables e below (T.setTop (mkF m pc L S)) t := XS.sipush X.here hx rfl (hb hby hd) hr
theorem olconst (X : Stand p l e R s m args below meth c T locs cells slots) (hx : p.tables.exec = Jvm.exec) (hby : c.code = bytes) {k : Fin 2} (hd : decode bytes pc = .ok (.lconst k, 1)) (hr : Steps p.tables e below (T.setTop (mkF m (pc + 1) L (.long (Int64.ofNat k) :: S))) t) : Steps p.tables e below (T.setTop (mkF m pc L S)) t := XS.lconst X.here hx rfl (hb hby hd) hr
theorem onull (X : Stand p l e R s m args below meth c T locs cells slots) (hx : p.tables.exec = Jvm.exec) (hby : c.code = bytes) (hd : decode bytes pc = .ok (.aconst_null, 1)) (hr : Steps p.tables e below (T.setTop (mkF m (pc + 1) L (.null :: S))) t) : Steps p.tables e below (T.setTop (mkF m pc L S)) t := XS.aconstNull X.here hx rfl (hb hby hd) hr
theorem oiadd (X : Stand p l e R s m args below meth c T locs cells slots) (hx : p.tables.exec = Jvm.exec) (hby : c.code = bytes) {x y : Int32} (hd : decode bytes pc = .ok (.iadd, 1)) (hr : Steps p.tables e below (T.setTop (mkF m (pc + 1) L (.int (x + y) :: S))) t) : Steps p.tables e below (T.setTop (mkF m pc L (.int y :: .int x :: S))) t := XS.iadd X.here hx rfl (hb hby hd) rfl hr
theorem oladd (X : Stand p l e R s m args below meth c T locs cells slots) (hx : p.tables.exec = Jvm.exec) (hby : c.code = bytes) {x y : Int64} (hd : decode bytes pc = .ok (.ladd, 1)) (hr : Steps p.tables e below (T.setTop (mkF m (pc + 1) L (.long (x + y) :: S))) t) : Steps p.tables e below (T.setTop (mkF m pc L (.long y :: .long x :: S))) t := XS.ladd X.here hx rfl (hb hby hd) rfl hr
theorem oisub (X : Stand p l e R s m args below meth c T locs cells slots) (hx : p.tables.exec = Jvm.exec) (hby : c.code = bytes) {x y : Int32} (hd : decode bytes pc = .ok (.isub, 1)) (hr : Steps p.tables e below (T.setTop (mkF m (pc + 1) L (.int (x - y) :: S))) t) : Steps p.tables e below (T.setTop (mkF m pc L (.int y :: .int x :: S))) t := XS.isub X.here hx rfl (hb hby hd) rfl hr
theorem olsub (X : Stand p l e R s m args below meth c T locs cells slots) (hx : p.tables.exec = Jvm.exec) (hby : c.code = bytes) {x y : Int64} (hd : decode bytes pc = .ok (.lsub, 1)) (hr : Steps p.tables e below (T.setTop (mkF m (pc + 1) L (.long (x - y) :: S))) t) : Steps p.tables e below (T.setTop (mkF m pc L (.long y :: .long x :: S))) t := XS.lsub X.here hx rfl (hb hby hd) rfl hr
theorem oimul (X : Stand p l e R s m args below meth c T locs cells slots) (hx : p.tables.exec = Jvm.exec) (hby : c.code = bytes) {x y : Int32} (hd : decode bytes pc = .ok (.imul, 1)) (hr : Steps p.tables e below (T.setTop (mkF m (pc + 1) L (.int (x * y) :: S))) t) : Steps p.tables e below (T.setTop (mkF m pc L (.int y :: .int x :: S))) t := XS.imul X.here hx rfl (hb hby hd) rfl hr
theorem olmul (X : Stand p l e R s m args below meth c T locs cells slots) (hx : p.tables.exec = Jvm.exec) (hby : c.code = bytes) {x y : Int64} (hd : decode bytes pc = .ok (.lmul, 1)) (hr : Steps p.tables e below (T.setTop (mkF m (pc + 1) L (.long (x * y) :: S))) t) : Steps p.tables e below (T.setTop (mkF m pc L (.long y :: .long x :: S))) t := XS.lmul X.here hx rfl (hb hby hd) rfl hr
theorem oiand (X : Stand p l e R s m args below meth c T locs cells slots) (hx : p.tables.exec = Jvm.exec) (hby : c.code = bytes) {x y : Int32} (hd : decode bytes pc = .ok (.iand, 1)) (hr : Steps p.tables e below (T.setTop (mkF m (pc + 1) L (.int (x &&& y) :: S))) t) : Steps p.tables e below (T.setTop (mkF m pc L (.int y :: .int x :: S))) t := XS.iand X.here hx rfl (hb hby hd) rfl hr
theorem oland (X : Stand p l e R s m args below meth c T locs cells slots) (hx : p.tables.exec = Jvm.exec) (hby : c.code = bytes) {x y : Int64} (hd : decode bytes pc = .ok (.land, 1)) (hr : Steps p.tables e below (T.setTop (mkF m (pc + 1) L (.long (x &&& y) :: S))) t) : Steps p.tables e below (T.setTop (mkF m pc L (.long y :: .long x :: S))) t := XS.land X.here hx rfl (hb hby hd) rfl hr
theorem oior (X : Stand p l e R s m args below meth c T locs cells slots) (hx : p.tables.exec = Jvm.exec) (hby : c.code = bytes) {x y : Int32} (hd : decode bytes pc = .ok (.ior, 1)) (hr : Steps p.tables e below (T.setTop (mkF m (pc + 1) L (.int (x ||| y) :: S))) t) : Steps p.tables e below (T.setTop (mkF m pc L (.int y :: .int x :: S))) t := XS.ior X.here hx rfl (hb hby hd) rfl hr
theorem olor (X : Stand p l e R s m args below meth c T locs cells slots) (hx : p.tables.exec = Jvm.exec) (hby : c.code = bytes) {x y : Int64} (hd : decode bytes pc = .ok (.lor, 1)) (hr : Steps p.tables e below (T.setTop (mkF m (pc + 1) L (.long (x ||| y) :: S))) t) : Steps p.tables e below (T.setTop (mkF m pc L (.long y :: .long x :: S))) t := XS.lor X.here hx rfl (hb hby hd) rfl hr
theorem oixor (X : Stand p l e R s m args below meth c T locs cells slots) (hx : p.tables.exec = Jvm.exec) (hby : c.code = bytes) {x y : Int32} (hd : decode bytes pc = .ok (.ixor, 1)) (hr : Steps p.tables e below (T.setTop (mkF m (pc + 1) L (.int (x ^^^ y) :: S))) t) : Steps p.tables e below (T.setTop (mkF m pc L (.int y :: .int x :: S))) t := XS.ixor X.here hx rfl (hb hby hd) rfl hr
theorem olxor (X : Stand p l e R s m args below meth c T locs cells slots) (hx : p.tables.exec = Jvm.exec) (hby : c.code = bytes) {x y : Int64} (hd : decode bytes pc = .ok (.lxor, 1)) (hr : Steps p.tables e below (T.setTop (mkF m (pc + 1) L (.long (x ^^^ y) :: S))) t) : Steps p.tables e below (T.setTop (mkF m pc L (.long y :: .long x :: S))) t := XS.lxor X.here hx rfl (hb hby hd) rfl hr
theorem oishl (X : Stand p l e R s m args below meth c T locs cells slots) (hx : p.tables.exec = Jvm.exec) (hby : c.code = bytes) {x y : Int32} (hd : decode bytes pc = .ok (.ishl, 1)) (hr : Steps p.tables e below (T.setTop (mkF m (pc + 1) L (.int (x <<< (y &&& 31)) :: S))) t) : Steps p.tables e below (T.setTop (mkF m pc L (.int y :: .int x :: S))) t := XS.ishl X.here hx rfl (hb hby hd) rfl hr
theorem oishr (X : Stand p l e R s m args below meth c T locs cells slots) (hx : p.tables.exec = Jvm.exec) (hby : c.code = bytes) {x y : Int32} (hd : decode bytes pc = .ok (.ishr, 1)) (hr : Steps p.tables e below (T.setTop (mkF m (pc + 1) L (.int (x >>> (y &&& 31)) :: S))) t) : Steps p.tables e below (T.setTop (mkF m pc L (.int y :: .int x :: S))) t := XS.ishr X.here hx rfl (hb hby hd) rfl hr
theorem oiushr (X : Stand p l e R s m args below meth c T locs cells slots) (hx : p.tables.exec = Jvm.exec) (hby : c.code = bytes) {x y : Int32} (hd : decode bytes pc = .ok (.iushr, 1)) (hr : Steps p.tables e below (T.setTop (mkF m (pc + 1) L (.int ((x.toUInt32 >>> (y &&& 31).toUInt32).toInt32) :: S))) t) : Steps p.tables e below (T.setTop (mkF m pc L (.int y :: .int x :: S))) t := XS.iushr X.here hx rfl (hb hby hd) rfl hr
theorem olshl (X : Stand p l e R s m args below meth c T locs cells slots) (hx : p.tables.exec = Jvm.exec) (hby : c.code = bytes) {x : Int64} {y : Int32} (hd : decode bytes pc = .ok (.lshl, 1)) (hr : Steps p.tables e below (T.setTop (mkF m (pc + 1) L (.long (x <<< (y &&& 0x3f).toInt64) :: S))) t) : Steps p.tables e below (T.setTop (mkF m pc L (.int y :: .long x :: S))) t := XS.lshl X.here hx rfl (hb hby hd) rfl hr
theorem olshr (X : Stand p l e R s m args below meth c T locs cells slots) (hx : p.tables.exec = Jvm.exec) (hby : c.code = bytes) {x : Int64} {y : Int32} (hd : decode bytes pc = .ok (.lshr, 1)) (hr : Steps p.tables e below (T.setTop (mkF m (pc + 1) L (.long (x >>> (y &&& 0x3f).toInt64) :: S))) t) : Steps p.tables e below (T.setTop (mkF m pc L (.int y :: .long x :: S))) t := XS.lshr X.here hx rfl (hb hby hd) rfl hr
theorem olushr (X : Stand p l e R s m args below meth c T locs cells slots) (hx : p.tables.exec = Jvm.exec) (hby : c.code = bytes) {x : Int64} {y : Int32} (hd : decode bytes pc = .ok (.lushr, 1)) (hr : Steps p.tables e below (T.setTop (mkF m (pc + 1) L (.long ((x.toUInt64 >>> (y &&& 0x3f).toInt64.toUInt64).toInt64) :: S))) t) : Steps p.tables e below (T.setTop (mkF m pc L (.int y :: .long x :: S))) t := XS.lushr X.here hx rfl (hb hby hd) rfl hr
theorem oineg (X : Stand p l e R s m args below meth c T locs cells slots) (hx : p.tables.exec = Jvm.exec) (hby : c.code = bytes) {x : Int32} (hd : decode bytes pc = .ok (.ineg, 1)) (hr : Steps p.tables e below (T.setTop (mkF m (pc + 1) L ((.int (-x)) :: S))) t) : Steps p.tables e below (T.setTop (mkF m pc L (.int x :: S))) t := XS.ineg X.here hx rfl (hb hby hd) rfl hr
theorem olneg (X : Stand p l e R s m args below meth c T locs cells slots) (hx : p.tables.exec = Jvm.exec) (hby : c.code = bytes) {x : Int64} (hd : decode bytes pc = .ok (.lneg, 1)) (hr : Steps p.tables e below (T.setTop (mkF m (pc + 1) L ((.long (-x)) :: S))) t) : Steps p.tables e below (T.setTop (mkF m pc L (.long x :: S))) t := XS.lneg X.here hx rfl (hb hby hd) rfl hr
theorem oi2l (X : Stand p l e R s m args below meth c T locs cells slots) (hx : p.tables.exec = Jvm.exec) (hby : c.code = bytes) {x : Int32} (hd : decode bytes pc = .ok (.i2l, 1)) (hr : Steps p.tables e below (T.setTop (mkF m (pc + 1) L ((.long (x.toInt64)) :: S))) t) : Steps p.tables e below (T.setTop (mkF m pc L (.int x :: S))) t := XS.i2l X.here hx rfl (hb hby hd) rfl hr
theorem ol2i (X : Stand p l e R s m args below meth c T locs cells slots) (hx : p.tables.exec = Jvm.exec) (hby : c.code = bytes) {x : Int64} (hd : decode bytes pc = .ok (.l2i, 1)) (hr : Steps p.tables e below (T.setTop (mkF m (pc + 1) L ((.int (x.toInt32)) :: S))) t) : Steps p.tables e below (T.setTop (mkF m pc L (.long x :: S))) t := XS.l2i X.here hx rfl (hb hby hd) rfl hr
theorem oi2b (X : Stand p l e R s m args below meth c T locs cells slots) (hx : p.tables.exec = Jvm.exec) (hby : c.code = bytes) {x : Int32} (hd : decode bytes pc = .ok (.i2b, 1)) (hr : Steps p.tables e below (T.setTop (mkF m (pc + 1) L ((.int (x.toInt8.toInt32)) :: S))) t) : Steps p.tables e below (T.setTop (mkF m pc L (.int x :: S))) t := XS.i2b X.here hx rfl (hb hby hd) rfl hr
theorem oi2s (X : Stand p l e R s m args below meth c T locs cells slots) (hx : p.tables.exec = Jvm.exec) (hby : c.code = bytes) {x : Int32} (hd : decode bytes pc = .ok (.i2s, 1)) (hr : Steps p.tables e below (T.setTop (mkF m (pc + 1) L ((.int (x.toInt16.toInt32)) :: S))) t) : Steps p.tables e below (T.setTop (mkF m pc L (.int x :: S))) t := XS.i2s X.here hx rfl (hb hby hd) rfl hr
theorem oi2c (X : Stand p l e R s m args below meth c T locs cells slots) (hx : p.tables.exec = Jvm.exec) (hby : c.code = bytes) {x : Int32} (hd : decode bytes pc = .ok (.i2c, 1)) (hr : Steps p.tables e below (T.setTop (mkF m (pc + 1) L ((.int (x.toUInt32.toUInt16.toUInt32.toInt32)) :: S))) t) : Steps p.tables e below (T.setTop (mkF m pc L (.int x :: S))) t := XS.i2c X.here hx rfl (hb hby hd) rfl hr
theorem oirem (X : Stand p l e R s m args below meth c T locs cells slots) (hx : p.tables.exec = Jvm.exec) (hby : c.code = bytes) {x y : Int32} (hd : decode bytes pc = .ok (.irem, 1)) (hy : y ≠ 0) (hr : Steps p.tables e below (T.setTop (mkF m (pc + 1) L (.int (x % y) :: S))) t) : Steps p.tables e below (T.setTop (mkF m pc L (.int y :: .int x :: S))) t := iremM X hx rfl (hb hby hd) rfl hy hr
theorem oidiv (X : Stand p l e R s m args below meth c T locs cells slots) (hx : p.tables.exec = Jvm.exec) (hby : c.code = bytes) {x y : Int32} (hd : decode bytes pc = .ok (.idiv, 1)) (hy : y ≠ 0) (hr : Steps p.tables e below (T.setTop (mkF m (pc + 1) L (.int (x / y) :: S))) t) : Steps p.tables e below (T.setTop (mkF m pc L (.int y :: .int x :: S))) t := XS.idiv X.here hx rfl (hb hby hd) rfl hy hr
theorem oldiv (X : Stand p l e R s m args below meth c T locs cells slots) (hx : p.tables.exec = Jvm.exec) (hby : c.code = bytes) {x y : Int64} (hd : decode bytes pc = .ok (.ldiv, 1)) (hy : y ≠ 0) (hr : Steps p.tables e below (T.setTop (mkF m (pc + 1) L (.long (x / y) :: S))) t) : Steps p.tables e below (T.setTop (mkF m pc L (.long y :: .long x :: S))) t := XS.ldiv X.here hx rfl (hb hby hd) rfl hy hr
theorem olrem (X : Stand p l e R s m args below meth c T locs cells slots) (hx : p.tables.exec = Jvm.exec) (hby : c.code = bytes) {x y : Int64} (hd : decode bytes pc = .ok (.lrem, 1)) (hy : y ≠ 0) (hr : Steps p.tables e below (T.setTop (mkF m (pc + 1) L (.long (x - (x / y) * y) :: S))) t) : Steps p.tables e below (T.setTop (mkF m pc L (.long y :: .long x :: S))) t := XS.lrem X.here hx rfl (hb hby hd) rfl hy hr
theorem olcmp (X : Stand p l e R s m args below meth c T locs cells slots) (hx : p.tables.exec = Jvm.exec) (hby : c.code = bytes) {x y : Int64} (hd : decode bytes pc = .ok (.lcmp, 1)) (hr : Steps p.tables e below (T.setTop (mkF m (pc + 1) L (.int (lcmpW x y) :: S))) t) : Steps p.tables e below (T.setTop (mkF m pc L (.long y :: .long x :: S))) t := XS.lcmp X.here hx rfl (hb hby hd) rfl hr
theorem oiinc (X : Stand p l e R s m args below meth c T locs cells slots) (hx : p.tables.exec = Jvm.exec) (hby : c.code = bytes) {k : Nat} {z : Int} {x : Int32} (hd : decode bytes pc = .ok (.iinc k z, 3)) (l' : Array Slot) (hl : L[k]? = some (.val (.int x))) (hl' : storeLocals L k (.int (x + Int32.ofInt z)) = some l') (hr : Steps p.tables e below (T.setTop (mkF m (pc + 3) l' S)) t) : Steps p.tables e below (T.setTop (mkF m pc L S)) t := XS.iinc X.here hx rfl (hb hby hd) hl hl' hr
theorem odup (X : Stand p l e R s m args below meth c T locs cells slots) (hx : p.tables.exec = Jvm.exec) (hby : c.code = bytes) {x : Value} (hd : decode bytes pc = .ok (.dup, 1)) (hc : x.category = 1) (hr : Steps p.tables e below (T.setTop (mkF m (pc + 1) L (x :: x :: S))) t) : Steps p.tables e below (T.setTop (mkF m pc L (x :: S))) t := XS.dup X.here hx rfl (hb hby hd) rfl hc hr
theorem opop (X : Stand p l e R s m args below meth c T locs cells slots) (hx : p.tables.exec = Jvm.exec) (hby : c.code = bytes) {x : Value} (hd : decode bytes pc = .ok (.pop, 1)) (hc : x.category = 1) (hr : Steps p.tables e below (T.setTop (mkF m (pc + 1) L S)) t) : Steps p.tables e below (T.setTop (mkF m pc L (x :: S))) t := XS.pop X.here hx rfl (hb hby hd) rfl hc hr
theorem odupx1 (X : Stand p l e R s m args below meth c T locs cells slots) (hx : p.tables.exec = Jvm.exec) (hby : c.code = bytes) {x y : Value} (hd : decode bytes pc = .ok (.dup_x1, 1)) (hc : x.category = 1) (hc' : y.category = 1) (hr : Steps p.tables e below (T.setTop (mkF m (pc + 1) L (x :: y :: x :: S))) t) : Steps p.tables e below (T.setTop (mkF m pc L (x :: y :: S))) t := XS.dupX1 X.here hx rfl (hb hby hd) rfl hc hc' hr
theorem odup2 (X : Stand p l e R s m args below meth c T locs cells slots) (hx : p.tables.exec = Jvm.exec) (hby : c.code = bytes) {x y : Value} (hd : decode bytes pc = .ok (.dup2, 1)) (hc : x.category = 1) (hc' : y.category = 1) (hr : Steps p.tables e below (T.setTop (mkF m (pc + 1) L (x :: y :: x :: y :: S))) t) : Steps p.tables e below (T.setTop (mkF m pc L (x :: y :: S))) t := Jvm.Free.XT.dup2 X.here hx rfl (hb hby hd) rfl hc hc' hr
theorem ogoto (X : Stand p l e R s m args below meth c T locs cells slots) (hx : p.tables.exec = Jvm.exec) (hby : c.code = bytes) {o : Int} (hd : decode bytes pc = .ok (.goto o, 3)) (pc' : Nat) (hp : 0 ≤ (pc : Int) + o ∧ ((pc : Int) + o).toNat = pc') (hr : Steps p.tables e below (T.setTop (mkF m pc' L S)) t) : Steps p.tables e below (T.setTop (mkF m pc L S)) t := XS.goto X.here hx rfl rfl (hb hby hd) hp.1 hp.2 hr
theorem oifY (X : Stand p l e R s m args below meth c T locs cells slots) (hx : p.tables.exec = Jvm.exec) (hby : c.code = bytes) {cd : ClassFile.Cond} {x : Int32} {o : Int} (hd : decode bytes pc = .ok (.ifCond cd o, 3)) (pc' : Nat) (hc : ifCond.holds cd x = true) (hp : 0 ≤ (pc : Int) + o ∧ ((pc : Int) + o).toNat = pc') (hr : Steps p.tables e below (T.setTop (mkF m pc' L S)) t) : Steps p.tables e below (T.setTop (mkF m pc L (.int x :: S))) t := XS.ifYes X.here hx rfl rfl (hb hby hd) rfl hc hp.1 hp.2 hr
theorem oifN (X : Stand p l e R s m args below meth c T locs cells slots) (hx : p.tables.exec = Jvm.exec) (hby : c.code = bytes) {cd : ClassFile.Cond} {x : Int32} {o : Int} (hd : decode bytes pc = .ok (.ifCond cd o, 3)) (hc : ifCond.holds cd x = false) (hr : Steps p.tables e below (T.setTop (mkF m (pc + 3) L S)) t) : Steps p.tables e below (T.setTop (mkF m pc L (.int x :: S))) t := XS.ifNo X.here hx rfl (hb hby hd) rfl hc hr
theorem oicY (X : Stand p l e R s m args below meth c T locs cells slots) (hx : p.tables.exec = Jvm.exec) (hby : c.code = bytes) {cd : ClassFile.Cond} {x y : Int32} {o : Int} (hd : decode bytes pc = .ok (.if_icmp cd o, 3)) (pc' : Nat) (hc : if_icmp.holds cd x y = true) (hp : 0 ≤ (pc : Int) + o ∧ ((pc : Int) + o).toNat = pc') (hr : Steps p.tables e below (T.setTop (mkF m pc' L S)) t) : Steps p.tables e below (T.setTop (mkF m pc L (.int y :: .int x :: S))) t := XS.icmpYes X.here hx rfl rfl (hb hby hd) rfl hc hp.1 hp.2 hr
theorem oicN (X : Stand p l e R s m args below meth c T locs cells slots) (hx : p.tables.exec = Jvm.exec) (hby : c.code = bytes) {cd : ClassFile.Cond} {x y : Int32} {o : Int} (hd : decode bytes pc = .ok (.if_icmp cd o, 3)) (hc : if_icmp.holds cd x y = false) (hr : Steps p.tables e below (T.setTop (mkF m (pc + 3) L S)) t) : Steps p.tables e below (T.setTop (mkF m pc L (.int y :: .int x :: S))) t := XS.icmpNo X.here hx rfl (hb hby hd) rfl hc hr
theorem oacmp (X : Stand p l e R s m args below meth c T locs cells slots) (hx : p.tables.exec = Jvm.exec) (hby : c.code = bytes) {cd : ACond} {x y : Value} {o : Int} (hd : decode bytes pc = .ok (.if_acmp cd o, 3)) (pc' : Nat) {same : Bool} (h1 : x.isRef = true) (h2 : y.isRef = true) (hq : decide (x = y) = same) (hp : 0 ≤ (pc : Int) + o ∧ pc' = if acV cd same = true then ((pc : Int) + o).toNat else pc + 3) (hr : Steps p.tables e below (T.setTop (mkF m pc' L S)) t) : Steps p.tables e below (T.setTop (mkF m pc L (y :: x :: S))) t := Jvm.RoadKit.acmp X hx rfl h1 h2 rfl (hb hby hd) rfl hq hp.1 hp.2 hr
theorem onlY (X : Stand p l e R s m args below meth c T locs cells slots) (hx : p.tables.exec = Jvm.exec) (hby : c.code = bytes) {o : Int} (hd : decode bytes pc = .ok (.ifnull o, 3)) (pc' : Nat) (hp : 0 ≤ (pc : Int) + o ∧ ((pc : Int) + o).toNat = pc') (hr : Steps p.tables e below (T.setTop (mkF m pc' L S)) t) : Steps p.tables e below (T.setTop (mkF m pc L (.null :: S))) t := XS.ifnullYes X.here hx rfl rfl (hb hby hd) rfl hp.1 hp.2 hr
theorem onlN (X : Stand p l e R s m args below meth c T locs cells slots) (hx : p.tables.exec = Jvm.exec) (hby : c.code = bytes) {o : Int} {a : Addr} (hd : decode bytes pc = .ok (.ifnull o, 3)) (hr : Steps p.tables e below (T.setTop (mkF m (pc + 3) L S)) t) : Steps p.tables e below (T.setTop (mkF m pc L (.ref a :: S))) t := XS.ifnullNo X.here hx rfl (hb hby hd) rfl hr
theorem onnY (X : Stand p l e R s m args below meth c T locs cells slots) (hx : p.tables.exec = Jvm.exec) (hby : c.code = bytes) {o : Int} {a : Addr} (hd : decode bytes pc = .ok (.ifnonnull o, 3)) (pc' : Nat) (hp : 0 ≤ (pc : Int) + o ∧ ((pc : Int) + o).toNat = pc') (hr : Steps p.tables e below (T.setTop (mkF m pc' L S)) t) : Steps p.tables e below (T.setTop (mkF m pc L (.ref a :: S))) t := XS.ifnonnullYes X.here hx rfl rfl (hb hby hd) rfl hp.1 hp.2 hr
theorem onnN (X : Stand p l e R s m args below meth c T locs cells slots) (hx : p.tables.exec = Jvm.exec) (hby : c.code = bytes) {o : Int} (hd : decode bytes pc = .ok (.ifnonnull o, 3)) (hr : Steps p.tables e below (T.setTop (mkF m (pc + 3) L S)) t) : Steps p.tables e below (T.setTop (mkF m pc L (.null :: S))) t := XS.ifnonnullNo X.here hx rfl (hb hby hd) rfl hr
end OwnSteps
section OwnCalls
variable {p : Program} {l : Launch} {e : Env} {R : Room} {s : State} {m : MethodId} {args : Array Value} {below : List Frame} {meth : Method} {c : Code} {T : State} {locs : List Loc} {cells slots : Nat} {Z : State} {a0 : Array Value} {h : Heap} {bytes : ByteArray}
theorem ocallS (X : Stand p l e R s m args below meth c T locs cells slots) (hx : p.tables.exec = Jvm.exec) (hZ : Z.Warmed39 s.vm) {cb : ByteArray} {maxL : Nat} {ret : Option FieldType} {rm : Room} {Q : Option Value → Heap → List Loc → Prop} {argsL rest : List Value} {index : Nat} {own : String} (y : MethodName) (hown : s.vm.findClass own = some m.cls) (w1 : (Cond.methodLink own index y).before a0 Z = true) (w2 : (Cond.static y).before a0 Z = true) (hy : y.cls ≠ "java/lang/invoke/MethodHandle" ∧ y.cls ≠ "java/lang/invoke/VarHandle") (w5 : (Cond.code y cb maxL ret).before a0 Z = true) (w6 : (Cond.initialized y.cls).before a0 Z = true) (eT : T.heap = h) (hM : MetFree l y (head1 [Cond.code y cb maxL ret] rm) (fun a U => a = argsL.toArray ∧ Z.Warmed39 U.vm ∧ U.heap = h) (fun _ _ _ _ _ => True) (fun _ U o U' => ∃ v L, o = .returned v ∧ Q v U'.heap L ∧ FrameEnd U o U' L rm.cells rm.slots)) {st : List Value} (hst : st = argsL.reverse ++ rest) (W : Nat) (hW : (rest.map fun v => v.category).sum = W) (hroom : rm.frames + 1 ≤ R.frames ∧ W + (maxL + 11) + rm.locals ≤ R.locals ∧ cells + rm.cells ≤ R.cells ∧ slots + rm.slots ≤ R.slots) {pc : Nat} {Ls : Array Slot} {nl : Nat} (hml : c.maxLocals = nl) (hsz : Ls.size = nl) (hlen : ∀ sig, parseMethodDescriptor y.desc = some sig → argsL.length = sig.parameters.length) (hd : decode bytes pc = .ok (.invokestatic index, 3)) (hby : c.code = bytes) : ∃ v T' L, Stand p l e R s m args below meth c T' (locs ++ L) (cells + rm.cells) (slots + rm.slots) ∧ Q v T'.heap L ∧ ∀ t, Steps p.tables e below (T'.setTop (mkF m (pc + 3) Ls (v.toList ++ rest))) t → Steps p.tables e below (T.setTop (mkF m pc Ls st)) t := by
  subst hst
  obtain ⟨_, _, ⟨T1, L1, k1, n1⟩, -, X1, ⟨Lc1, hQ1, l1, y1, z1⟩, st1⟩ := Jvm.LawKit.callS X hx hown (mvT hZ w1) (mvT hZ w2) (mvT hZ w6) (mvT hZ w5) hy (backOf (W := W) hM hZ w5 w6 hroom.1 hroom.2.1) (g := mkF m pc Ls (argsL.reverse ++ rest)) rfl (hsz.trans hml.symm) (argsL := argsL) (rest := rest) hlen rfl (by show 2 * 0 + _ ≤ _; rw [Nat.mul_zero, Nat.zero_add]; exact Nat.le_of_eq hW) (hb hby hd) (fun _ _ => ⟨rfl, eT, hroom.2.2.1, hroom.2.2.2⟩)
  dsimp only [Pt.U, Pt.locs, Pt.cells, Pt.slots] at X1 l1 y1 z1 st1 hQ1
  subst l1 y1 z1
  exact ⟨_, _, _, X1, hQ1, st1⟩
theorem ocallI (X : Stand p l e R s m args below meth c T locs cells slots) (hx : p.tables.exec = Jvm.exec) (hZ : Z.Warmed39 s.vm) {cb : ByteArray} {maxL : Nat} {rm : Room} {Q : Option Value → Heap → List Loc → Prop} {argsL rest : List Value} {index : Nat} {own : String} (y : MethodName) (hn : y.name = "<init>") (hown : s.vm.findClass own = some m.cls) (w1 : (Cond.methodLink own index y).before a0 Z = true) (w2 : (Cond.instanceMethod y).before a0 Z = true) (hy : y.cls ≠ "java/lang/invoke/MethodHandle" ∧ y.cls ≠ "java/lang/invoke/VarHandle") (w5 : (Cond.code y cb maxL none).before a0 Z = true) (w6 : (Cond.initialized y.cls).before a0 Z = true) (eT : T.heap = h) {b : Addr} (hM : MetFree l y (head1 [Cond.code y cb maxL none] rm) (fun a U => a = (.ref b :: argsL).toArray ∧ Z.Warmed39 U.vm ∧ U.heap = h) (fun _ _ _ _ _ => True) (fun _ U o U' => ∃ v L, o = .returned v ∧ Q v U'.heap L ∧ FrameEnd U o U' L rm.cells rm.slots)) {st : List Value} (hst : st = argsL.reverse ++ .ref b :: rest) (W : Nat) (hW : (rest.map fun v => v.category).sum = W) (hroom : rm.frames + 1 ≤ R.frames ∧ W + (maxL + 11) + rm.locals ≤ R.locals ∧ cells + rm.cells ≤ R.cells ∧ slots + rm.slots ≤ R.slots) {pc : Nat} {Ls : Array Slot} {nl : Nat} (hml : c.maxLocals = nl) (hsz : Ls.size = nl) (hlen : ∀ sig, parseMethodDescriptor y.desc = some sig → argsL.length = sig.parameters.length) (hd : decode bytes pc = .ok (.invokespecial index, 3)) (hby : c.code = bytes) : ∃ v T' L, Stand p l e R s m args below meth c T' (locs ++ L) (cells + rm.cells) (slots + rm.slots) ∧ Q v T'.heap L ∧ ∀ t, Steps p.tables e below (T'.setTop (mkF m (pc + 3) Ls (v.toList ++ rest))) t → Steps p.tables e below (T.setTop (mkF m pc Ls st)) t := by
  subst hst
  obtain ⟨_, _, ⟨T1, L1, k1, n1⟩, -, X1, ⟨Lc1, hQ1, l1, y1, z1⟩, st1⟩ := X.specialBack hx hn hown (mvT hZ w1) (mvT hZ w2) (mvT hZ w5) hy (backOf (W := W) hM hZ w5 w6 hroom.1 hroom.2.1) (g := mkF m pc Ls (argsL.reverse ++ .ref b :: rest)) rfl (hsz.trans hml.symm) (Steps.refl _) (a := b) (argsL := argsL) (rest := rest) hlen rfl (by show 2 * 0 + _ ≤ _; rw [Nat.mul_zero, Nat.zero_add]; exact Nat.le_of_eq hW) (hb hby hd) (fun _ _ => ⟨rfl, eT, hroom.2.2.1, hroom.2.2.2⟩)
  dsimp only [Pt.U, Pt.locs, Pt.cells, Pt.slots] at X1 l1 y1 z1 st1 hQ1
  subst l1 y1 z1
  exact ⟨_, _, _, X1, hQ1, fun _ k => st1.trans k⟩
theorem ocallV (X : Stand p l e R s m args below meth c T locs cells slots) (hx : p.tables.exec = Jvm.exec) (hZ : Z.Warmed39 s.vm) {cb : ByteArray} {maxL : Nat} {ret : Option FieldType} {rm : Room} {Q : Option Value → Heap → List Loc → Prop} {argsL rest : List Value} {index : Nat} {own : String} {C : String} (y z : MethodName) (hown : s.vm.findClass own = some m.cls) (w1 : (Cond.methodLink own index y).before a0 Z = true) (w2 : (Cond.declares y).before a0 Z = true) (nf : NotFace s y) (w4 : (Cond.selects C y z).before a0 Z = true) (w3 : (Cond.instanceMethod z).before a0 Z = true) (hy : y.cls ≠ "java/lang/invoke/MethodHandle" ∧ y.cls ≠ "java/lang/invoke/VarHandle") (w5 : (Cond.code z cb maxL ret).before a0 Z = true) (w6 : (Cond.initialized z.cls).before a0 Z = true) (eT : T.heap = h) {b : Addr} (E : Exa Z h b C) (hM : MetFree l z (head1 [Cond.code z cb maxL ret] rm) (fun a U => a = (.ref b :: argsL).toArray ∧ Z.Warmed39 U.vm ∧ U.heap = h) (fun _ _ _ _ _ => True) (fun _ U o U' => ∃ v L, o = .returned v ∧ Q v U'.heap L ∧ FrameEnd U o U' L rm.cells rm.slots)) {st : List Value} (hst : st = argsL.reverse ++ .ref b :: rest) (W : Nat) (hW : (rest.map fun v => v.category).sum = W) (hroom : rm.frames + 1 ≤ R.frames ∧ W + (maxL + 11) + rm.locals ≤ R.locals ∧ cells + rm.cells ≤ R.cells ∧ slots + rm.slots ≤ R.slots) {pc : Nat} {Ls : Array Slot} {nl : Nat} (hml : c.maxLocals = nl) (hsz : Ls.size = nl) (hlen : ∀ sig, parseMethodDescriptor y.desc = some sig → argsL.length = sig.parameters.length) (hd : decode bytes pc = .ok (.invokevirtual index, 3)) (hby : c.code = bytes) : ∃ v T' L, Stand p l e R s m args below meth c T' (locs ++ L) (cells + rm.cells) (slots + rm.slots) ∧ Q v T'.heap L ∧ ∀ t, Steps p.tables e below (T'.setTop (mkF m (pc + 3) Ls (v.toList ++ rest))) t → Steps p.tables e below (T.setTop (mkF m pc Ls st)) t := by
  subst hst
  obtain ⟨cq, kq, qa, qb, qc⟩ := isOf hZ eT E
  obtain ⟨_, _, ⟨T1, L1, k1, n1⟩, -, X1, ⟨Lc1, hQ1, l1, y1, z1⟩, st1⟩ := X.virtualBack hx hown (mvT hZ w1) (mvT hZ w2) nf (mvT hZ w4) (mvT hZ w3) hy (backOf (W := W) hM hZ w5 w6 hroom.1 hroom.2.1) qa qc (g := mkF m pc Ls (argsL.reverse ++ .ref b :: rest)) rfl (hsz.trans hml.symm) (Steps.refl _) (argsL := argsL) (rest := rest) hlen rfl (by show 2 * 0 + _ ≤ _; rw [Nat.mul_zero, Nat.zero_add]; exact Nat.le_of_eq hW) (hb hby hd) (fun _ _ => ⟨rfl, eT, hroom.2.2.1, hroom.2.2.2⟩)
  dsimp only [Pt.U, Pt.locs, Pt.cells, Pt.slots] at X1 l1 y1 z1 st1 hQ1
  subst l1 y1 z1
  exact ⟨_, _, _, X1, hQ1, fun _ k => st1.trans k⟩
theorem ocallU (X : Stand p l e R s m args below meth c T locs cells slots) (hx : p.tables.exec = Jvm.exec) (hZ : Z.Warmed39 s.vm) {cb : ByteArray} {maxL : Nat} {ret : Option FieldType} {rm : Room} {Q : Option Value → Heap → List Loc → Prop} {argsL rest : List Value} {index : Nat} {own : String} {C owner : String} (x y : MethodName) (hown : s.vm.findClass own = some m.cls) (w1 : (Cond.methodLink own index x).before a0 Z = true) (w2 : (Cond.sameMethod x.cls owner x.name x.desc).before a0 Z = true) (w7 : (Cond.declares ⟨owner, x.name, x.desc⟩).before a0 Z = true) (hy : owner ≠ "java/lang/invoke/MethodHandle" ∧ owner ≠ "java/lang/invoke/VarHandle") (w4 : (Cond.selects C x y).before a0 Z = true) (w3 : (Cond.instanceMethod y).before a0 Z = true) (w5 : (Cond.code y cb maxL ret).before a0 Z = true) (w6 : (Cond.initialized y.cls).before a0 Z = true) (eT : T.heap = h) {b : Addr} (E : Exa Z h b C) (hM : MetFree l y (head1 [Cond.code y cb maxL ret] rm) (fun a U => a = (.ref b :: argsL).toArray ∧ Z.Warmed39 U.vm ∧ U.heap = h) (fun _ _ _ _ _ => True) (fun _ U o U' => ∃ v L, o = .returned v ∧ Q v U'.heap L ∧ FrameEnd U o U' L rm.cells rm.slots)) {st : List Value} (hst : st = argsL.reverse ++ .ref b :: rest) (W : Nat) (hW : (rest.map fun v => v.category).sum = W) (hroom : rm.frames + 1 ≤ R.frames ∧ W + (maxL + 11) + rm.locals ≤ R.locals ∧ cells + rm.cells ≤ R.cells ∧ slots + rm.slots ≤ R.slots) {pc : Nat} {Ls : Array Slot} {nl : Nat} (hml : c.maxLocals = nl) (hsz : Ls.size = nl) (hlen : ∀ sig, parseMethodDescriptor x.desc = some sig → argsL.length = sig.parameters.length) (hd : decode bytes pc = .ok (.invokevirtual index, 3)) (hby : c.code = bytes) : ∃ v T' L, Stand p l e R s m args below meth c T' (locs ++ L) (cells + rm.cells) (slots + rm.slots) ∧ Q v T'.heap L ∧ ∀ t, Steps p.tables e below (T'.setTop (mkF m (pc + 3) Ls (v.toList ++ rest))) t → Steps p.tables e below (T.setTop (mkF m pc Ls st)) t := by
  subst hst
  obtain ⟨cq, kq, qa, qb, qc⟩ := isOf hZ eT E
  obtain ⟨_, _, ⟨T1, L1, k1, n1⟩, -, X1, ⟨Lc1, hQ1, l1, y1, z1⟩, st1⟩ := X.virtualBackUp hx hown (mvT hZ w1) (mvT hZ w2) (mvT hZ w7) hy (mvT hZ w4) (mvT hZ w3) (backOf (W := W) hM hZ w5 w6 hroom.1 hroom.2.1) qa qc (g := mkF m pc Ls (argsL.reverse ++ .ref b :: rest)) rfl (hsz.trans hml.symm) (Steps.refl _) (argsL := argsL) (rest := rest) hlen rfl (by show 2 * 0 + _ ≤ _; rw [Nat.mul_zero, Nat.zero_add]; exact Nat.le_of_eq hW) (hb hby hd) (fun _ _ => ⟨rfl, eT, hroom.2.2.1, hroom.2.2.2⟩)
  dsimp only [Pt.U, Pt.locs, Pt.cells, Pt.slots] at X1 l1 y1 z1 st1 hQ1
  subst l1 y1 z1
  exact ⟨_, _, _, X1, hQ1, fun _ k => st1.trans k⟩
theorem ocallP (X : Stand p l e R s m args below meth c T locs cells slots) (hx : p.tables.exec = Jvm.exec) (hZ : Z.Warmed39 s.vm) {cb : ByteArray} {maxL : Nat} {ret : Option FieldType} {rm : Room} {Q : Option Value → Heap → List Loc → Prop} {argsL rest : List Value} {index : Nat} {own : String} (y : MethodName) (hown : s.vm.findClass own = some m.cls) (w1 : (Cond.methodLink own index y).before a0 Z = true) (w2 : (Cond.instanceMethod y).before a0 Z = true) (w4 : (Cond.selects y.cls y y).before args s = true) (w3 : (Cond.privateMethod y).before a0 Z = true) (hy : y.cls ≠ "java/lang/invoke/MethodHandle" ∧ y.cls ≠ "java/lang/invoke/VarHandle") (w5 : (Cond.code y cb maxL ret).before a0 Z = true) (w6 : (Cond.initialized y.cls).before a0 Z = true) (eT : T.heap = h) {C : String} {b : Addr} (E : Exa Z h b C) (hM : MetFree l y (head1 [Cond.code y cb maxL ret] rm) (fun a U => a = (.ref b :: argsL).toArray ∧ Z.Warmed39 U.vm ∧ U.heap = h) (fun _ _ _ _ _ => True) (fun _ U o U' => ∃ v L, o = .returned v ∧ Q v U'.heap L ∧ FrameEnd U o U' L rm.cells rm.slots)) {st : List Value} (hst : st = argsL.reverse ++ .ref b :: rest) (W : Nat) (hW : (rest.map fun v => v.category).sum = W) (hroom : rm.frames + 1 ≤ R.frames ∧ W + (maxL + 11) + rm.locals ≤ R.locals ∧ cells + rm.cells ≤ R.cells ∧ slots + rm.slots ≤ R.slots) {pc : Nat} {Ls : Array Slot} {nl : Nat} (hml : c.maxLocals = nl) (hsz : Ls.size = nl) (hlen : ∀ sig, parseMethodDescriptor y.desc = some sig → argsL.length = sig.parameters.length) (hd : decode bytes pc = .ok (.invokevirtual index, 3)) (hby : c.code = bytes) : ∃ v T' L, Stand p l e R s m args below meth c T' (locs ++ L) (cells + rm.cells) (slots + rm.slots) ∧ Q v T'.heap L ∧ ∀ t, Steps p.tables e below (T'.setTop (mkF m (pc + 3) Ls (v.toList ++ rest))) t → Steps p.tables e below (T.setTop (mkF m pc Ls st)) t := by
  subst hst
  obtain ⟨cq, q1, q2⟩ := E.cell
  obtain ⟨_, _, ⟨T1, L1, k1, n1⟩, -, X1, ⟨Lc1, hQ1, l1, y1, z1⟩, st1⟩ := X.privateBack hx hown (mvT hZ w1) (mvT hZ w2) w4 (Cond.privateMethod_at (mvP hZ w3 (args := #[]))) (mvT hZ w5) hy (backOf (W := W) hM hZ w5 w6 hroom.1 hroom.2.1) (g := mkF m pc Ls (argsL.reverse ++ .ref b :: rest)) rfl (hsz.trans hml.symm) (Steps.refl _) (a := b) (by rw [eT]; exact q1) q2 (argsL := argsL) (rest := rest) hlen rfl (by show 2 * 0 + _ ≤ _; rw [Nat.mul_zero, Nat.zero_add]; exact Nat.le_of_eq hW) (hb hby hd) (fun _ _ => ⟨rfl, eT, hroom.2.2.1, hroom.2.2.2⟩)
  dsimp only [Pt.U, Pt.locs, Pt.cells, Pt.slots] at X1 l1 y1 z1 st1 hQ1
  subst l1 y1 z1
  exact ⟨_, _, _, X1, hQ1, fun _ k => st1.trans k⟩
theorem ocallN (X : Stand p l e R s m args below meth c T locs cells slots) (hx : p.tables.exec = Jvm.exec) (hZ : Z.Warmed39 s.vm) {cb : ByteArray} {maxL : Nat} {ret : Option FieldType} {rm : Room} {Q : Option Value → Heap → List Loc → Prop} {argsL rest : List Value} {index : Nat} {own : String} {C : String} (x y : MethodName) (hown : s.vm.findClass own = some m.cls) (w1 : (Cond.methodLink own index x).before a0 Z = true) (w2 : (Cond.declares x).before a0 Z = true) (w7 : (Cond.interfaceMethod x.cls x.cls x.name x.desc).before args s = true) (w4 : (Cond.selects C x y).before a0 Z = true) (w3 : (Cond.instanceMethod y).before a0 Z = true) (w8 : (Cond.publicMethod y).before a0 Z = true) (w9 : (Cond.unhidden C x.name x.desc).before a0 Z = true) (wa : (Cond.castable C x.cls).before a0 Z = true) (hy : x.cls ≠ "java/lang/invoke/MethodHandle" ∧ x.cls ≠ "java/lang/invoke/VarHandle") (w5 : (Cond.code y cb maxL ret).before a0 Z = true) (w6 : (Cond.initialized y.cls).before a0 Z = true) (eT : T.heap = h) {b : Addr} (E : Exa Z h b C) {cnt : Nat} (hM : MetFree l y (head1 [Cond.code y cb maxL ret] rm) (fun a U => a = (.ref b :: argsL).toArray ∧ Z.Warmed39 U.vm ∧ U.heap = h) (fun _ _ _ _ _ => True) (fun _ U o U' => ∃ v L, o = .returned v ∧ Q v U'.heap L ∧ FrameEnd U o U' L rm.cells rm.slots)) {st : List Value} (hst : st = argsL.reverse ++ .ref b :: rest) (W : Nat) (hW : (rest.map fun v => v.category).sum = W) (hroom : rm.frames + 1 ≤ R.frames ∧ W + (maxL + 11) + rm.locals ≤ R.locals ∧ cells + rm.cells ≤ R.cells ∧ slots + rm.slots ≤ R.slots) {pc : Nat} {Ls : Array Slot} {nl : Nat} (hml : c.maxLocals = nl) (hsz : Ls.size = nl) (hlen : ∀ sig, parseMethodDescriptor x.desc = some sig → argsL.length = sig.parameters.length) (hd : decode bytes pc = .ok (.invokeinterface index cnt, 5)) (hby : c.code = bytes) : ∃ v T' L, Stand p l e R s m args below meth c T' (locs ++ L) (cells + rm.cells) (slots + rm.slots) ∧ Q v T'.heap L ∧ ∀ t, Steps p.tables e below (T'.setTop (mkF m (pc + 5) Ls (v.toList ++ rest))) t → Steps p.tables e below (T.setTop (mkF m pc Ls st)) t := by
  subst hst
  obtain ⟨cq, kq, qa, qb, qc⟩ := isOf hZ eT E
  obtain ⟨_, _, ⟨T1, L1, k1, n1⟩, -, X1, ⟨Lc1, hQ1, l1, y1, z1⟩, st1⟩ := X.interfaceBack hx hown (mvT hZ w1) (mvT hZ w2) w7 (mvT hZ w4) (mvT hZ w3) (mvT hZ w8) (mvT hZ w9) (mvT hZ wa) hy (backOf (W := W) hM hZ w5 w6 hroom.1 hroom.2.1) qa qb qc (g := mkF m pc Ls (argsL.reverse ++ .ref b :: rest)) rfl (hsz.trans hml.symm) (Steps.refl _) (argsL := argsL) (rest := rest) hlen rfl (by show 2 * 0 + _ ≤ _; rw [Nat.mul_zero, Nat.zero_add]; exact Nat.le_of_eq hW) (hb hby hd) (fun _ _ => ⟨rfl, eT, hroom.2.2.1, hroom.2.2.2⟩)
  dsimp only [Pt.U, Pt.locs, Pt.cells, Pt.slots] at X1 l1 y1 z1 st1 hQ1
  subst l1 y1 z1
  exact ⟨_, _, _, X1, hQ1, fun _ k => st1.trans k⟩
end OwnCalls
end Jvm.RoadKit
namespace Jvm.Pilot.@@N@@
open Jvm Jvm.ClassFile Sem Op Lib Jvm.Free Jvm.Stand Jvm.LawKit Jvm.RoadKit Bundle Jvm.Pilot.@@N@@.Jvm.D
theorem ww {Z : State} {a0 : Array Value} (hw : ∀ d ∈ tables_1, d.before a0 Z = true) (i : Nat) {d : Jvm.Cond} (h : tables_1[i]? = some d) : d.before a0 Z = true := hw d (List.mem_of_getElem? h)
def QLaw (n0 : Nat) (v : Option Value) (h : Heap) (L : List Loc) : Prop := v = some (.int (1 : Int32)) ∧ Fr n0 L

theorem own_r3 (t : Int32) (h0 : 0 ≤ t.toInt) (h1 : t.toInt < 3) : t = (0 : Int32) ∨ t = (1 : Int32) ∨ t = (2 : Int32) := by
  have h : t.toInt = 0 ∨ t.toInt = 1 ∨ t.toInt = 2 := by omega
  rcases h with h | h | h <;> simp [← Int32.toInt_inj, h]
theorem own_m3_2147483647 (x : Int32) : (x &&& (2147483647 : Int32)) % (3 : Int32) = (0 : Int32) ∨ (x &&& (2147483647 : Int32)) % (3 : Int32) = (1 : Int32) ∨ (x &&& (2147483647 : Int32)) % (3 : Int32) = (2 : Int32) := own_r3 _ (by have h := (c_and x 2147483647 (by decide)).1; have e := (c_irem (x &&& 2147483647) 3 3 (by decide)).1 h; omega) (by have h := (c_and x 2147483647 (by decide)).1; have e := (c_irem (x &&& 2147483647) 3 3 (by decide)).1 h; omega)
theorem own_r2 (t : Int32) (h0 : 0 ≤ t.toInt) (h1 : t.toInt < 2) : t = (0 : Int32) ∨ t = (1 : Int32) := by
  have h : t.toInt = 0 ∨ t.toInt = 1 := by omega
  rcases h with h | h <;> simp [← Int32.toInt_inj, h]
theorem own_s2 (x : Int32) : x &&& (1 : Int32) = (0 : Int32) ∨ x &&& (1 : Int32) = (1 : Int32) := own_r2 _ (c_and x 1 (by decide)).1 (by have h := (c_and x 1 (by decide)).2; have e : (1 : Int32).toInt = 1 := (by decide); omega)
abbrev lc0 (x0 : Int32) (x1 : Int32) (x2 : Int32) (x3 : Int32) (x4 : Int32) (x5 : Int32) : Array Slot := #[.val (.int x0), .val (.int x1), .val (.int x2), .val (.int x3), .val (.int x4), .val (.int x5), .unset, .unset, .unset, .unset, .unset, .unset]
theorem d1_0 : decode prog_21_method_1_code 0 = .ok (.aload_n 0, 1) := by decide +kernel
theorem d1_1 : decode prog_21_method_1_code 1 = .ok (.invokespecial 3, 3) := by decide +kernel
abbrev lc1 (x0 : Addr) : Array Slot := #[.val (.ref x0)]
theorem d1_4 : decode prog_21_method_1_code 4 = .ok (.aload_n 0, 1) := by decide +kernel
theorem d1_5 : decode prog_21_method_1_code 5 = .ok (.bipush 16, 2) := by decide +kernel
theorem d1_7 : decode prog_21_method_1_code 7 = .ok (.anewarray 9, 3) := by decide +kernel
theorem d1_10 : decode prog_21_method_1_code 10 = .ok (.putfield 11, 3) := by decide +kernel
theorem d1_13 : decode prog_21_method_1_code 13 = .ok (.return_, 1) := by decide +kernel
theorem ef_0 (m : MethodId) (x0 : Addr) : entryFrame m #[(.ref x0)] 1 = mkF m 0 #[.val (.ref x0)] [] := by first | (simp [entryFrame, mkF, argsToLocals, Value.category, maxLocals]; done) | rfl
theorem pn_com_example_stratafold_stratafold_fhir_IntBlocks : plainName "com/example/stratafold/stratafold/fhir/IntBlocks" = true := by first | (simp [plainName, overriddenIn]; done) | decide +kernel
theorem pd_0 : parseMethodDescriptor "()V" = some ⟨[], none⟩ := by decide +kernel
abbrev lc2 (x0 : Int32) (x1 : Int32) (x2 : Int32) (x3 : Int32) (x4 : Int32) (x5 : Int32) (x6 : Addr) : Array Slot := #[.val (.int x0), .val (.int x1), .val (.int x2), .val (.int x3), .val (.int x4), .val (.int x5), .val (.ref x6), .unset, .unset, .unset, .unset, .unset]
theorem d3_0 : decode prog_21_method_3_code 0 = .ok (.aload_n 0, 1) := by decide +kernel
theorem d3_1 : decode prog_21_method_3_code 1 = .ok (.getfield 15, 3) := by decide +kernel
abbrev lc3 (x0 : Addr) (x1 : Int32) : Array Slot := #[.val (.ref x0), .val (.int x1), .unset, .unset]
theorem d3_4 : decode prog_21_method_3_code 4 = .ok (.ldc 21, 2) := by decide +kernel
theorem d3_6 : decode prog_21_method_3_code 6 = .ok (.if_icmp .ne 13, 3) := by decide +kernel
theorem d3_19 : decode prog_21_method_3_code 19 = .ok (.aload_n 0, 1) := by decide +kernel
theorem d3_20 : decode prog_21_method_3_code 20 = .ok (.getfield 15, 3) := by decide +kernel
theorem d3_23 : decode prog_21_method_3_code 23 = .ok (.bipush 12, 2) := by decide +kernel
theorem d3_25 : decode prog_21_method_3_code 25 = .ok (.iushr, 1) := by decide +kernel
theorem d3_26 : decode prog_21_method_3_code 26 = .ok (.istore_n 2, 1) := by decide +kernel
abbrev lc4 (x0 : Addr) (x1 : Int32) (x2 : Int32) : Array Slot := #[.val (.ref x0), .val (.int x1), .val (.int x2), .unset]
theorem d3_27 : decode prog_21_method_3_code 27 = .ok (.aload_n 0, 1) := by decide +kernel
theorem d3_28 : decode prog_21_method_3_code 28 = .ok (.getfield 15, 3) := by decide +kernel
theorem d3_31 : decode prog_21_method_3_code 31 = .ok (.sipush 4095, 3) := by decide +kernel
theorem d3_34 : decode prog_21_method_3_code 34 = .ok (.iand, 1) := by decide +kernel
theorem d3_35 : decode prog_21_method_3_code 35 = .ok (.istore_n 3, 1) := by decide +kernel
abbrev lc5 (x0 : Addr) (x1 : Int32) (x2 : Int32) (x3 : Int32) : Array Slot := #[.val (.ref x0), .val (.int x1), .val (.int x2), .val (.int x3)]
theorem d3_36 : decode prog_21_method_3_code 36 = .ok (.iload_n 2, 1) := by decide +kernel
theorem d3_37 : decode prog_21_method_3_code 37 = .ok (.aload_n 0, 1) := by decide +kernel
theorem d3_38 : decode prog_21_method_3_code 38 = .ok (.getfield 11, 3) := by decide +kernel
theorem d3_41 : decode prog_21_method_3_code 41 = .ok (.arraylength, 1) := by decide +kernel
theorem d3_42 : decode prog_21_method_3_code 42 = .ok (.if_icmp .ne 20, 3) := by decide +kernel
theorem d3_62 : decode prog_21_method_3_code 62 = .ok (.aload_n 0, 1) := by decide +kernel
theorem d3_63 : decode prog_21_method_3_code 63 = .ok (.getfield 11, 3) := by decide +kernel
theorem d3_66 : decode prog_21_method_3_code 66 = .ok (.iload_n 2, 1) := by decide +kernel
theorem d3_67 : decode prog_21_method_3_code 67 = .ok (.aaload, 1) := by decide +kernel
theorem d3_68 : decode prog_21_method_3_code 68 = .ok (.ifnonnull 26, 3) := by decide +kernel
theorem d3_71 : decode prog_21_method_3_code 71 = .ok (.aload_n 0, 1) := by decide +kernel
theorem d3_72 : decode prog_21_method_3_code 72 = .ok (.getfield 11, 3) := by decide +kernel
theorem d3_75 : decode prog_21_method_3_code 75 = .ok (.iload_n 2, 1) := by decide +kernel
theorem d3_76 : decode prog_21_method_3_code 76 = .ok (.iload_n 2, 1) := by decide +kernel
theorem d3_77 : decode prog_21_method_3_code 77 = .ok (.ifCond .ne 8, 3) := by decide +kernel
theorem d3_80 : decode prog_21_method_3_code 80 = .ok (.bipush 16, 2) := by decide +kernel
theorem d3_82 : decode prog_21_method_3_code 82 = .ok (.goto 6, 3) := by decide +kernel
theorem d3_88 : decode prog_21_method_3_code 88 = .ok (.newarray .int, 2) := by decide +kernel
theorem d3_90 : decode prog_21_method_3_code 90 = .ok (.aastore, 1) := by decide +kernel
theorem d3_91 : decode prog_21_method_3_code 91 = .ok (.goto 32, 3) := by decide +kernel
theorem d3_123 : decode prog_21_method_3_code 123 = .ok (.aload_n 0, 1) := by decide +kernel
theorem d3_124 : decode prog_21_method_3_code 124 = .ok (.getfield 11, 3) := by decide +kernel
theorem d3_127 : decode prog_21_method_3_code 127 = .ok (.iload_n 2, 1) := by decide +kernel
theorem d3_128 : decode prog_21_method_3_code 128 = .ok (.aaload, 1) := by decide +kernel
theorem d3_129 : decode prog_21_method_3_code 129 = .ok (.iload_n 3, 1) := by decide +kernel
theorem d3_130 : decode prog_21_method_3_code 130 = .ok (.iload_n 1, 1) := by decide +kernel
theorem d3_131 : decode prog_21_method_3_code 131 = .ok (.iastore, 1) := by decide +kernel
theorem d3_132 : decode prog_21_method_3_code 132 = .ok (.aload_n 0, 1) := by decide +kernel
theorem d3_133 : decode prog_21_method_3_code 133 = .ok (.dup, 1) := by decide +kernel
theorem d3_134 : decode prog_21_method_3_code 134 = .ok (.getfield 15, 3) := by decide +kernel
theorem d3_137 : decode prog_21_method_3_code 137 = .ok (.dup_x1, 1) := by decide +kernel
theorem d3_138 : decode prog_21_method_3_code 138 = .ok (.iconst 1, 1) := by decide +kernel
theorem d3_139 : decode prog_21_method_3_code 139 = .ok (.iadd, 1) := by decide +kernel
theorem d3_140 : decode prog_21_method_3_code 140 = .ok (.putfield 15, 3) := by decide +kernel
theorem d3_143 : decode prog_21_method_3_code 143 = .ok (.ireturn, 1) := by decide +kernel
theorem ef_1 (m : MethodId) (x0 : Addr) (x1 : Int32) : entryFrame m #[(.ref x0), (.int x1)] 4 = mkF m 0 #[.val (.ref x0), .val (.int x1), .unset, .unset] [] := by first | (simp [entryFrame, mkF, argsToLocals, Value.category, maxLocals]; done) | rfl
theorem pd_1 : parseMethodDescriptor "(I)I" = some ⟨[.int], some .int⟩ := by decide +kernel
theorem d3_94 : decode prog_21_method_3_code 94 = .ok (.iload_n 3, 1) := by decide +kernel
theorem d3_95 : decode prog_21_method_3_code 95 = .ok (.aload_n 0, 1) := by decide +kernel
theorem d3_96 : decode prog_21_method_3_code 96 = .ok (.getfield 11, 3) := by decide +kernel
theorem d3_99 : decode prog_21_method_3_code 99 = .ok (.iload_n 2, 1) := by decide +kernel
theorem d3_100 : decode prog_21_method_3_code 100 = .ok (.aaload, 1) := by decide +kernel
theorem d3_101 : decode prog_21_method_3_code 101 = .ok (.arraylength, 1) := by decide +kernel
theorem d3_102 : decode prog_21_method_3_code 102 = .ok (.if_icmp .ne 21, 3) := by decide +kernel
abbrev lc6 (x0 : Int32) (x1 : Int32) (x2 : Int32) (x3 : Int32) (x4 : Int32) (x5 : Int32) (x6 : Addr) (x7 : Int32) : Array Slot := #[.val (.int x0), .val (.int x1), .val (.int x2), .val (.int x3), .val (.int x4), .val (.int x5), .val (.ref x6), .val (.int x7), .unset, .unset, .unset, .unset]
abbrev lc7 (x0 : Int32) (x1 : Int32) (x2 : Int32) (x3 : Int32) (x4 : Int32) (x5 : Int32) (x6 : Addr) (x7 : Int32) (x8 : Int32) : Array Slot := #[.val (.int x0), .val (.int x1), .val (.int x2), .val (.int x3), .val (.int x4), .val (.int x5), .val (.ref x6), .val (.int x7), .val (.int x8), .unset, .unset, .unset]
abbrev lc8 (x0 : Int32) (x1 : Int32) (x2 : Int32) (x3 : Int32) (x4 : Int32) (x5 : Int32) (x6 : Addr) (x7 : Int32) (x8 : Int32) (x9 : Int32) : Array Slot := #[.val (.int x0), .val (.int x1), .val (.int x2), .val (.int x3), .val (.int x4), .val (.int x5), .val (.ref x6), .val (.int x7), .val (.int x8), .val (.int x9), .unset, .unset]
abbrev lc9 (x0 : Int32) (x1 : Int32) (x2 : Int32) (x3 : Int32) (x4 : Int32) (x5 : Int32) (x6 : Addr) (x7 : Int32) (x8 : Int32) (x9 : Int32) (x10 : Int32) : Array Slot := #[.val (.int x0), .val (.int x1), .val (.int x2), .val (.int x3), .val (.int x4), .val (.int x5), .val (.ref x6), .val (.int x7), .val (.int x8), .val (.int x9), .val (.int x10), .unset]
abbrev lc10 (x0 : Int32) (x1 : Int32) (x2 : Int32) (x3 : Int32) (x4 : Int32) (x5 : Int32) (x6 : Addr) (x7 : Int32) (x8 : Int32) (x9 : Int32) (x10 : Int32) (x11 : Int32) : Array Slot := #[.val (.int x0), .val (.int x1), .val (.int x2), .val (.int x3), .val (.int x4), .val (.int x5), .val (.ref x6), .val (.int x7), .val (.int x8), .val (.int x9), .val (.int x10), .val (.int x11)]
theorem d7_0 : decode prog_21_method_4_code 0 = .ok (.iload_n 1, 1) := by decide +kernel
theorem d7_1 : decode prog_21_method_4_code 1 = .ok (.aload_n 0, 1) := by decide +kernel
theorem d7_2 : decode prog_21_method_4_code 2 = .ok (.getfield 15, 3) := by decide +kernel
abbrev lc11 (x0 : Addr) (x1 : Int32) : Array Slot := #[.val (.ref x0), .val (.int x1)]
theorem d7_5 : decode prog_21_method_4_code 5 = .ok (.invokestatic 39, 3) := by decide +kernel
theorem d5_0 : decode jdk_31_method_17_code 0 = .ok (.iload_n 0, 1) := by decide +kernel
theorem d5_1 : decode jdk_31_method_17_code 1 = .ok (.iload_n 1, 1) := by decide +kernel
theorem d5_2 : decode jdk_31_method_17_code 2 = .ok (.aconst_null, 1) := by decide +kernel
theorem d5_3 : decode jdk_31_method_17_code 3 = .ok (.invokestatic 105, 3) := by decide +kernel
abbrev lc12 (x0 : Int32) (x1 : Int32) : Array Slot := #[.val (.int x0), .val (.int x1)]
theorem d6_0 : decode jdk_41_method_11_code 0 = .ok (.iload_n 0, 1) := by decide +kernel
theorem d6_1 : decode jdk_41_method_11_code 1 = .ok (.ifCond .lt 8, 3) := by decide +kernel
abbrev lc13 (x0 : Int32) (x1 : Int32) : Array Slot := #[.val (.int x0), .val (.int x1), .val .null]
theorem d6_4 : decode jdk_41_method_11_code 4 = .ok (.iload_n 0, 1) := by decide +kernel
theorem d6_5 : decode jdk_41_method_11_code 5 = .ok (.iload_n 1, 1) := by decide +kernel
theorem d6_6 : decode jdk_41_method_11_code 6 = .ok (.if_icmp .lt 10, 3) := by decide +kernel
theorem d6_16 : decode jdk_41_method_11_code 16 = .ok (.iload_n 0, 1) := by decide +kernel
theorem d6_17 : decode jdk_41_method_11_code 17 = .ok (.ireturn, 1) := by decide +kernel
theorem ef_2 (m : MethodId) (x0 : Int32) (x1 : Int32) : entryFrame m #[(.int x0), (.int x1), .null] 3 = mkF m 0 #[.val (.int x0), .val (.int x1), .val .null] [] := by first | (simp [entryFrame, mkF, argsToLocals, Value.category, maxLocals]; done) | rfl
theorem pn_jdk_internal_util_Preconditions : plainName "jdk/internal/util/Preconditions" = true := by first | (simp [plainName, overriddenIn]; done) | decide +kernel
theorem pd_2 : parseMethodDescriptor "(IILjava/util/function/BiFunction;)I" = some ⟨[.int, .int, (.object "java/util/function/BiFunction")], some .int⟩ := by decide +kernel
theorem d5_6 : decode jdk_31_method_17_code 6 = .ok (.ireturn, 1) := by decide +kernel
theorem ef_3 (m : MethodId) (x0 : Int32) (x1 : Int32) : entryFrame m #[(.int x0), (.int x1)] 2 = mkF m 0 #[.val (.int x0), .val (.int x1)] [] := by first | (simp [entryFrame, mkF, argsToLocals, Value.category, maxLocals]; done) | rfl
theorem pn_java_util_Objects : plainName "java/util/Objects" = true := by first | (simp [plainName, overriddenIn]; done) | decide +kernel
theorem pd_3 : parseMethodDescriptor "(II)I" = some ⟨[.int, .int], some .int⟩ := by decide +kernel
theorem d7_8 : decode prog_21_method_4_code 8 = .ok (.pop, 1) := by decide +kernel
theorem d7_9 : decode prog_21_method_4_code 9 = .ok (.aload_n 0, 1) := by decide +kernel
theorem d7_10 : decode prog_21_method_4_code 10 = .ok (.getfield 11, 3) := by decide +kernel
theorem d7_13 : decode prog_21_method_4_code 13 = .ok (.iload_n 1, 1) := by decide +kernel
theorem d7_14 : decode prog_21_method_4_code 14 = .ok (.bipush 12, 2) := by decide +kernel
theorem d7_16 : decode prog_21_method_4_code 16 = .ok (.iushr, 1) := by decide +kernel
theorem d7_17 : decode prog_21_method_4_code 17 = .ok (.aaload, 1) := by decide +kernel
theorem d7_18 : decode prog_21_method_4_code 18 = .ok (.iload_n 1, 1) := by decide +kernel
theorem d7_19 : decode prog_21_method_4_code 19 = .ok (.sipush 4095, 3) := by decide +kernel
theorem d7_22 : decode prog_21_method_4_code 22 = .ok (.iand, 1) := by decide +kernel
theorem d7_23 : decode prog_21_method_4_code 23 = .ok (.iaload, 1) := by decide +kernel
theorem d7_24 : decode prog_21_method_4_code 24 = .ok (.ireturn, 1) := by decide +kernel
theorem ef_4 (m : MethodId) (x0 : Addr) (x1 : Int32) : entryFrame m #[(.ref x0), (.int x1)] 2 = mkF m 0 #[.val (.ref x0), .val (.int x1)] [] := by first | (simp [entryFrame, mkF, argsToLocals, Value.category, maxLocals]; done) | rfl
theorem ef_5 (m : MethodId) (x0 : Int32) (x1 : Int32) (x2 : Int32) (x3 : Int32) (x4 : Int32) (x5 : Int32) : entryFrame m #[(.int x0), (.int x1), (.int x2), (.int x3), (.int x4), (.int x5)] maxLocals = mkF m 0 #[.val (.int x0), .val (.int x1), .val (.int x2), .val (.int x3), .val (.int x4), .val (.int x5), .unset, .unset, .unset, .unset, .unset, .unset] [] := by first | (simp [entryFrame, mkF, argsToLocals, Value.category, maxLocals]; done) | rfl
theorem pn_com_example_stratafold_stratafold_fhir_IntBlocksGetPinLaw : plainName "com/example/stratafold/stratafold/fhir/IntBlocksGetPinLaw" = true := by first | (simp [plainName, overriddenIn]; done) | decide +kernel
theorem d4_0 : decode prog_21_method_5_code 0 = .ok (.iload_n 1, 1) := by decide +kernel
theorem d4_1 : decode prog_21_method_5_code 1 = .ok (.aload_n 0, 1) := by decide +kernel
theorem d4_2 : decode prog_21_method_5_code 2 = .ok (.getfield 15, 3) := by decide +kernel
abbrev lc14 (x0 : Addr) (x1 : Int32) (x2 : Int32) : Array Slot := #[.val (.ref x0), .val (.int x1), .val (.int x2)]
theorem d4_5 : decode prog_21_method_5_code 5 = .ok (.invokestatic 39, 3) := by decide +kernel
theorem d4_8 : decode prog_21_method_5_code 8 = .ok (.pop, 1) := by decide +kernel
theorem d4_9 : decode prog_21_method_5_code 9 = .ok (.aload_n 0, 1) := by decide +kernel
theorem d4_10 : decode prog_21_method_5_code 10 = .ok (.getfield 11, 3) := by decide +kernel
theorem d4_13 : decode prog_21_method_5_code 13 = .ok (.iload_n 1, 1) := by decide +kernel
theorem d4_14 : decode prog_21_method_5_code 14 = .ok (.bipush 12, 2) := by decide +kernel
theorem d4_16 : decode prog_21_method_5_code 16 = .ok (.iushr, 1) := by decide +kernel
theorem d4_17 : decode prog_21_method_5_code 17 = .ok (.aaload, 1) := by decide +kernel
theorem d4_18 : decode prog_21_method_5_code 18 = .ok (.iload_n 1, 1) := by decide +kernel
theorem d4_19 : decode prog_21_method_5_code 19 = .ok (.sipush 4095, 3) := by decide +kernel
theorem d4_22 : decode prog_21_method_5_code 22 = .ok (.iand, 1) := by decide +kernel
theorem d4_23 : decode prog_21_method_5_code 23 = .ok (.iload_n 2, 1) := by decide +kernel
theorem d4_24 : decode prog_21_method_5_code 24 = .ok (.iastore, 1) := by decide +kernel
theorem d4_25 : decode prog_21_method_5_code 25 = .ok (.return_, 1) := by decide +kernel
theorem ef_6 (m : MethodId) (x0 : Addr) (x1 : Int32) (x2 : Int32) : entryFrame m #[(.ref x0), (.int x1), (.int x2)] 3 = mkF m 0 #[.val (.ref x0), .val (.int x1), .val (.int x2)] [] := by first | (simp [entryFrame, mkF, argsToLocals, Value.category, maxLocals]; done) | rfl
theorem pd_4 : parseMethodDescriptor "(II)V" = some ⟨[.int, .int], none⟩ := by decide +kernel
abbrev zs0 : String := "com/example/stratafold/stratafold/fhir/IntBlocks"
abbrev zs1 : String := "jdk/internal/util/Preconditions"
abbrev zs2 : String := "(IILjava/util/function/BiFunction;)I"
abbrev zs3 : String := "java/util/Objects"
abbrev zs4 : String := "com/example/stratafold/stratafold/fhir/IntBlocksGetPinLaw"
abbrev zm0 : MethodName := (⟨zs0, "<init>", "()V"⟩ : MethodName)
abbrev zm1 : MethodName := (⟨zs0, "add", "(I)I"⟩ : MethodName)
abbrev zm2 : MethodName := (⟨zs1, "checkIndex", zs2⟩ : MethodName)
abbrev zm3 : MethodName := (⟨zs3, "checkIndex", "(II)I"⟩ : MethodName)
abbrev zm4 : MethodName := (⟨zs0, "get", "(I)I"⟩ : MethodName)
abbrev zm5 : MethodName := (⟨zs0, "set", "(II)V"⟩ : MethodName)
def Q1_0 (Z : State) (a1 : Addr) (h0 : Heap) (n0 : Nat) (v : Option Value) (h : Heap) (L : List Loc) : Prop := ∃ b3 : Addr, ∃ k3 : ClassId, v = none ∧ Fr n0 L ∧ Keep h0 h [a1] ∧ h0.size ≤ b3 ∧ OvrA Z k3 .int "[I" ∧ Fld Z h a1 zs0 "blocks" "[[I" (.ref b3) ∧ Fld Z h a1 zs0 "size" "I" (.int 0) ∧ Exa Z h b3 "[[I" ∧ Arv Z h b3 k3 (.array .int) (16 : Int32) [] .null
set_option maxRecDepth 65536 in
set_option maxHeartbeats 40000000 in
theorem rm1_0 (l : Launch) (Z : State) (a0 : Array Value) (hw : ∀ d ∈ tables_1, d.before a0 Z = true) (ws : List Jvm.Cond) (a1 : Addr) (h0 : Heap) (n0 : Nat) (Z0 : n0 ≤ h0.size) (F5 : Fld Z h0 a1 zs0 "blocks" "[[I" .null) (F6 : Fld Z h0 a1 zs0 "size" "I" (.int 0)) (F8 : Exa Z h0 a1 zs0) (g11 : n0 ≤ a1) :
    MetFree l zm0 (head1 (Jvm.Cond.code zm0 prog_21_method_1_code 1 none :: ws) ({ frames := 1, cells := 1, slots := 16, locals := 12 } : Room)) (fun a U => a = #[(.ref a1)] ∧ Z.Warmed39 U.vm ∧ U.heap = h0) (fun _ _ _ _ _ => True) (fun _ U o U' => ∃ v L, o = .returned v ∧ Q1_0 Z a1 h0 n0 v U'.heap L ∧ FrameEnd U o U' L ({ frames := 1, cells := 1, slots := 16, locals := 12 } : Room).cells ({ frames := 1, cells := 1, slots := 16, locals := 12 } : Room).slots) := by
  refine MetFree.of_bodySF (plainFor_of_name pn_com_example_stratafold_stratafold_fhir_IntBlocks) hisR ?_
  intro p e s m args below meth c s₁ Bd hml0 hP hK
  obtain ⟨rfl, hZ, hh⟩ := hP
  have hx := Bd.exec
  have hby := Bd.bytes
  have hml : c.maxLocals = 1 := hml0
  have hown : s.vm.findClass zs0 = some m.cls := findClass_of_methodNamed Bd.named
  have hnm := (name_of_methodNamed Bd.named Bd.method).1
  have X0 : Stand p l e ({ frames := 1, cells := 1, slots := 16, locals := 12 } : Room) s m #[(.ref a1)] below meth c s₁ [] 0 0 := Stand.of_body Bd
  have e0 : s₁.heap = h0 := by rw [← hh, Bd.state]; rfl
  have N0 := Fr.nil n0
  refine own_pre (g' := mkF m 0 (lc1 a1) []) (ef_0 m a1) ?_
  obtain ⟨T2, X2, e2, st2⟩ := initO X0 hx hZ hown (ww hw 6 rfl) (ww hw 7 rfl) (ww hw 8 rfl) e0 (g := (mkF m 1 (lc1 a1) [(.ref a1)])) rfl (by rw [hml]; rfl) rfl (hb hby d1_1) (by decide) (W := 0) (by show 2 * 0 + _ ≤ _; exact Nat.le_of_eq rfl) (by decide)
  obtain ⟨T3, h3, k3, X3, e3, E3, A3, B3, O3, st3⟩ := newRA X2 hx hZ (C := "[I") (ty := .int) hown (by decide) (ww hw 9 rfl) (ww hw 10 rfl) e2 (g := (mkF m 7 (lc1 a1) [(.int 16), (.ref a1)])) rfl (hb hby d1_7) rfl (by decide) (cap := 16) (by decide) (by decide) (by decide) (by decide) (ad := "[[I") (by decide)
  obtain ⟨b3, g3⟩ : ∃ z, z = h0.size := ⟨_, rfl⟩
  rw [← g3] at A3 B3 st3
  have f4 : Arv Z h3 b3 k3 (.array .int) (16 : Int32) [] .null := Arv.new A3 (by decide)
  have f7 : Fld Z h3 a1 zs0 "blocks" "[[I" .null := (Fld.ext E3 F5)
  have f9 : Exa Z h3 a1 zs0 := (Exa.ext E3 F8)
  obtain ⟨T10, h10, X10, e10, W10, st10⟩ := putF X3 hx hZ hown (host := "") (Or.inl (ww hw 11 rfl)) Via.refl e3 f7 f9 (Or.inl (ww hw 12 rfl)) (ww hw 1 rfl) (ty := (.array (.array .int))) (by decide) rfl rfl (g := (mkF m 10 (lc1 a1) [(.ref b3), (.ref a1)])) rfl rfl (hb hby d1_10)
  have N12 := Fr.snoc X10 N0 g11
  have f13 : Fld Z h10 a1 zs0 "blocks" "[[I" (.ref b3) := Fld.same W10 f7
  refine own_go (U' := T10.setTop (mkF m 13 (lc1 a1) [])) (fun t k => oaloadN X0 hx hby d1_0 rfl rfl (st2 _ (oaloadN X2 hx hby d1_4 rfl rfl (obipush X2 hx hby d1_5 (st3 _ (st10 _ k)))))) ?_
  have f14 : Fld Z h10 a1 zs0 "size" "I" (.int 0) := (Fld.other W10 (Fld.ext E3 F6) (Or.inr (slot_ne (Or.inl (ww hw 19 rfl)) (Or.inl (ww hw 12 rfl)) (by decide) (t := .int) (t' := (.array (.array .int))) (by decide) (by decide))))
  have f15 : Exa Z h10 b3 "[[I" := (Exa.wr W10 B3)
  have ne16 : a1 ≠ b3 := Nat.ne_of_lt (Nat.lt_of_lt_of_le (F5.lt) (Nat.le_of_eq g3.symm))
  have f17 : Arv Z h10 b3 k3 (.array .int) (16 : Int32) [] .null := (f4.other W10 (Ne.symm ne16))
  obtain ⟨fs, hr, hrun, hended, hW, hsame⟩ := X10.leave (v := none) (fun _ => rfl)
  refine own_out ⟨_, _, ?_, hrun, hended, _, _, rfl, ?_, ⟨_, rfl⟩, hW, hsame.mono (by decide) (by decide)⟩
  · exact X10.returnOut hx Bd.returns (hb hby d1_13) hr
  · show Q1_0 Z a1 h0 n0 _ T10.heap _
    rw [e10]
    exact ⟨b3, k3, rfl, N12, (((Keep.refl h0 [a1]).ext E3).wr W10 (Or.inl (List.mem_of_getElem? (i := 0) rfl))), (Nat.le_of_eq g3.symm), O3, f13, f14, f15, f17⟩
def Q3_1 (Z : State) (a1 : Addr) (p2 : Int32) (a7 : Addr) (kc10 : ClassId) (h0 : Heap) (n0 : Nat) (v : Option Value) (h : Heap) (L : List Loc) : Prop := ∃ b17 : Addr, ∃ k17 : ClassId, v = some (.int 0) ∧ Fr n0 L ∧ Keep h0 h [a7, a1] ∧ h0.size ≤ b17 ∧ Arv Z h a7 kc10 (.array .int) (16 : Int32) [(.ref b17)] .null ∧ Fld Z h a1 zs0 "size" "I" (.int 1) ∧ Fld Z h a1 zs0 "blocks" "[[I" (.ref a7) ∧ Exa Z h b17 "[I" ∧ Arv Z h b17 k17 .int (16 : Int32) [(.int p2)] (.int (0 : Int32))
set_option maxRecDepth 65536 in
set_option maxHeartbeats 40000000 in
theorem rm3_1 (l : Launch) (Z : State) (a0 : Array Value) (hw : ∀ d ∈ tables_1, d.before a0 Z = true) (ws : List Jvm.Cond) (a1 : Addr) (p2 : Int32) (a7 : Addr) (kc10 : ClassId) (h0 : Heap) (n0 : Nat) (Z0 : n0 ≤ h0.size) (F3 : Fld Z h0 a1 zs0 "size" "I" (.int 0)) (F8 : Fld Z h0 a1 zs0 "blocks" "[[I" (.ref a7)) (F11 : Arv Z h0 a7 kc10 (.array .int) (16 : Int32) [] .null) (O20 : OvrA Z kc10 .int "[I") (g24 : n0 ≤ a7) (ne27 : a1 ≠ a7) (F43 : Exa Z h0 a1 zs0) (g46 : n0 ≤ a1) :
    MetFree l zm1 (head1 (Jvm.Cond.code zm1 prog_21_method_3_code 4 (some .int) :: ws) ({ frames := 0, cells := 1, slots := 16, locals := 0 } : Room)) (fun a U => a = #[(.ref a1), (.int p2)] ∧ Z.Warmed39 U.vm ∧ U.heap = h0) (fun _ _ _ _ _ => True) (fun _ U o U' => ∃ v L, o = .returned v ∧ Q3_1 Z a1 p2 a7 kc10 h0 n0 v U'.heap L ∧ FrameEnd U o U' L ({ frames := 0, cells := 1, slots := 16, locals := 0 } : Room).cells ({ frames := 0, cells := 1, slots := 16, locals := 0 } : Room).slots) := by
  refine MetFree.of_bodySF (plainFor_of_name pn_com_example_stratafold_stratafold_fhir_IntBlocks) hisR ?_
  intro p e s m args below meth c s₁ Bd hml0 hP hK
  obtain ⟨rfl, hZ, hh⟩ := hP
  have hx := Bd.exec
  have hby := Bd.bytes
  have hml : c.maxLocals = 4 := hml0
  have hown : s.vm.findClass zs0 = some m.cls := findClass_of_methodNamed Bd.named
  have hnm := (name_of_methodNamed Bd.named Bd.method).1
  have X0 : Stand p l e ({ frames := 0, cells := 1, slots := 16, locals := 0 } : Room) s m #[(.ref a1), (.int p2)] below meth c s₁ [] 0 0 := Stand.of_body Bd
  have e0 : s₁.heap = h0 := by rw [← hh, Bd.state]; rfl
  have N0 := Fr.nil n0
  refine own_pre (g' := mkF m 0 (lc3 a1 p2) []) (ef_1 m a1 p2) ?_
  obtain ⟨T4, X4, e4, st4⟩ := getF X0 hx hZ hown (host := "") (Or.inl (ww hw 18 rfl)) Via.refl e0 F3 (g := (mkF m 1 (lc3 a1 p2) [(.ref a1)])) rfl rfl (hb hby d3_1)
  refine own_go (U' := T4.setTop (mkF m 6 (lc3 a1 p2) [(.int 2147483647), (.int 0)])) (fun t k => oaloadN X0 hx hby d3_0 rfl rfl (st4 _ (X4.ldcInt hx hown (mvT hZ (ww hw 20 rfl)) (g := (mkF m 4 (lc3 a1 p2) [(.int 0)])) rfl (hb hby d3_4) _ k))) ?_
  obtain ⟨T5, X5, e5, st5⟩ := getF X4 hx hZ hown (host := "") (Or.inl (ww hw 18 rfl)) Via.refl e4 F3 (g := (mkF m 20 (lc3 a1 p2) [(.ref a1)])) rfl rfl (hb hby d3_20)
  obtain ⟨T6, X6, e6, st6⟩ := getF X5 hx hZ hown (host := "") (Or.inl (ww hw 18 rfl)) Via.refl e5 F3 (g := (mkF m 28 (lc4 a1 p2 0) [(.ref a1)])) rfl rfl (hb hby d3_28)
  obtain ⟨T9, X9, e9, st9⟩ := getF X6 hx hZ hown (host := "") (Or.inl (ww hw 11 rfl)) Via.refl e6 F8 (g := (mkF m 38 (lc5 a1 p2 0 0) [(.ref a1), (.int 0)])) rfl rfl (hb hby d3_38)
  refine own_go (U' := T9.setTop (mkF m 41 (lc5 a1 p2 0 0) [(.ref a7), (.int 0)])) (fun t k => oicY (pc := 6) X4 hx hby d3_6 19 (by decide) (by decide) (oaloadN X4 hx hby d3_19 rfl rfl (st5 _ (obipush X5 hx hby d3_23 (oiushr X5 hx hby d3_25 (oistoreN X5 hx hby d3_26 (lc4 a1 p2 0) rfl (oaloadN X5 hx hby d3_27 rfl rfl (st6 _ (osipush X6 hx hby d3_31 (oiand X6 hx hby d3_34 (oistoreN X6 hx hby d3_35 (lc5 a1 p2 0 0) rfl (oiloadN X6 hx hby d3_36 rfl (oaloadN X6 hx hby d3_37 rfl rfl (st9 _ k)))))))))))))) ?_
  obtain ⟨cl12, Ar12, q12, S12, N12, H12, G12⟩ := id F11
  refine own_go (fun t k => X9.arraylength hx (by rw [e9]; exact Ar12.1) (State.isArrayOf_alike hZ.alike Ar12.2.1) (g := (mkF m 41 (lc5 a1 p2 0 0) [(.ref a7), (.int 0)])) rfl rfl (hb hby d3_41) _ k) ?_
  rw [len_of S12 N12]
  obtain ⟨T13, X13, e13, st13⟩ := getF X9 hx hZ hown (host := "") (Or.inl (ww hw 11 rfl)) Via.refl e9 F8 (g := (mkF m 63 (lc5 a1 p2 0 0) [(.ref a1)])) rfl rfl (hb hby d3_63)
  obtain ⟨cl14, Ar14, q14, S14, N14, H14, G14⟩ := id F11
  have hin15 : ¬ ((0 : Int32) < 0 ∨ cl14.slots.size ≤ ((0 : Int32)).toNatClampNeg) := inb_of S14 ⟨by decide, by decide⟩
  have hat15 : cl14.slots[((0 : Int32)).toNatClampNeg]? = some .null := Has.at H14 hin15 rfl
  obtain ⟨T16, X16, e16, st16⟩ := getF X13 hx hZ hown (host := "") (Or.inl (ww hw 11 rfl)) Via.refl e13 F8 (g := (mkF m 72 (lc5 a1 p2 0 0) [(.ref a1)])) rfl rfl (hb hby d3_72)
  refine own_go (U' := T16.setTop (mkF m 77 (lc5 a1 p2 0 0) [(.int 0), (.int 0), (.ref a7)])) (fun t k => oicY (pc := 42) X9 hx hby d3_42 62 (by decide) (by decide) (oaloadN X9 hx hby d3_62 rfl rfl (st13 _ (oiloadN X13 hx hby d3_66 rfl (X13.aaload hx (j := (0 : Int32)) (v := .null) (by rw [e13]; exact Ar14.1) (State.isArrayOf_alike hZ.alike Ar14.2.1) rfl Ar14.2.2 hin15 hat15 (g := (mkF m 67 (lc5 a1 p2 0 0) [(.int 0), (.ref a7)])) rfl rfl (hb hby d3_67) _ (onnN X13 hx hby d3_68 (oaloadN X13 hx hby d3_71 rfl rfl (st16 _ (oiloadN X16 hx hby d3_75 rfl (oiloadN X16 hx hby d3_76 rfl k)))))))))) ?_
  obtain ⟨T17, h17, k17, X17, e17, E17, A17, B17, st17⟩ := newPE X16 hx hZ (ww hw 21 rfl) e16 (g := (mkF m 88 (lc5 a1 p2 0 0) [(.int 16), (.int 0), (.ref a7)])) rfl (hb hby d3_88) rfl (by decide) (cap := 16) (by decide) (by decide) (by decide) (by decide) (ad := "[I") (by decide)
  obtain ⟨b17, g17⟩ : ∃ z, z = h0.size := ⟨_, rfl⟩
  rw [← g17] at A17 B17 st17
  have f18 : Arv Z h17 b17 k17 .int (16 : Int32) [] (.int (0 : Int32)) := Arv.new A17 (by decide)
  have f19 : Arv Z h17 a7 kc10 (.array .int) (16 : Int32) [] .null := (F11.ext E17)
  have f21 : Arv Z h17 a7 kc10 (.array .int) (16 : Int32) [.null] .null := f19.pad (pad_rep [] .null 1)
  obtain ⟨cl22, Ar22, q22, S22, N22, H22, G22⟩ := id f21
  have hin23 : ¬ ((0 : Int32) < 0 ∨ cl22.slots.size ≤ ((0 : Int32)).toNatClampNeg) := inb_of S22 ⟨by decide, by decide⟩
  obtain ⟨T23, h23, X23, e23, W23, st23⟩ := stR X17 hx hZ e17 Ar22 (j := (0 : Int32)) hin23 rfl (Sto.ofVA Ar22 q22 O20 (Ins.self B17)) (g := (mkF m 90 (lc5 a1 p2 0 0) [(.ref b17), (.int 0), (.ref a7)])) rfl rfl (hb hby d3_90)
  have N25 := Fr.snoc X23 N0 g24
  have f26 : Arv Z h23 a7 kc10 (.array .int) (16 : Int32) [(.ref b17)] .null := Arv.set Ar22 q22 S22 N22 H22 G22 (by rfl) W23 0 rfl (Nat.le_of_ble_eq_true rfl)
  have f28 : Fld Z h23 a1 zs0 "blocks" "[[I" (.ref a7) := (Fld.other W23 (Fld.ext E17 F8) (Or.inl ne27))
  obtain ⟨T29, X29, e29, st29⟩ := getF X23 hx hZ hown (host := "") (Or.inl (ww hw 11 rfl)) Via.refl e23 f28 (g := (mkF m 124 (lc5 a1 p2 0 0) [(.ref a1)])) rfl rfl (hb hby d3_124)
  obtain ⟨cl30, Ar30, q30, S30, N30, H30, G30⟩ := id f26
  have hin31 : ¬ ((0 : Int32) < 0 ∨ cl30.slots.size ≤ ((0 : Int32)).toNatClampNeg) := inb_of S30 ⟨by decide, by decide⟩
  have hat31 : cl30.slots[((0 : Int32)).toNatClampNeg]? = some (.ref b17) := Has.at H30 hin31 rfl
  have ne32 : a7 ≠ b17 := Nat.ne_of_lt (Nat.lt_of_lt_of_le (F11.lt) (Nat.le_of_eq g17.symm))
  have f33 : Arv Z h23 b17 k17 .int (16 : Int32) [] (.int (0 : Int32)) := (f18.other W23 (Ne.symm ne32))
  have f34 : Arv Z h23 b17 k17 .int (16 : Int32) [(.int 0)] (.int (0 : Int32)) := f33.pad (pad_rep [] (.int (0 : Int32)) 1)
  obtain ⟨cl35, Ar35, q35, S35, N35, H35, G35⟩ := id f34
  have g37 : n0 ≤ b17 := Nat.le_trans Z0 (Nat.le_of_eq g17.symm)
  have hin36 : ¬ ((0 : Int32) < 0 ∨ cl35.slots.size ≤ ((0 : Int32)).toNatClampNeg) := inb_of S35 ⟨by decide, by decide⟩
  obtain ⟨T36, h36, X36, e36, W36, st36⟩ := stI X29 hx hZ e29 Ar35 (j := (0 : Int32)) hin36 (g := (mkF m 131 (lc5 a1 p2 0 0) [(.int p2), (.int 0), (.ref b17)])) rfl rfl (hb hby d3_131)
  have N38 := Fr.snoc X36 N25 g37
  have f39 : Arv Z h36 b17 k17 .int (16 : Int32) [(.int p2)] (.int (0 : Int32)) := Arv.set Ar35 q35 S35 N35 H35 G35 (by rfl) W36 0 rfl (Nat.le_of_ble_eq_true rfl)
  have ne40 : a1 ≠ b17 := Nat.ne_of_lt (Nat.lt_of_lt_of_le (F3.lt) (Nat.le_of_eq g17.symm))
  have f41 : Fld Z h36 a1 zs0 "size" "I" (.int 0) := (Fld.other W36 (Fld.other W23 (Fld.ext E17 F3) (Or.inl ne27)) (Or.inl ne40))
  obtain ⟨T42, X42, e42, st42⟩ := getF X36 hx hZ hown (host := "") (Or.inl (ww hw 18 rfl)) Via.refl e36 f41 (g := (mkF m 134 (lc5 a1 p2 0 0) [(.ref a1), (.ref a1)])) rfl rfl (hb hby d3_134)
  have f44 : Exa Z h36 a1 zs0 := (Exa.wr W36 (Exa.wr W23 (Exa.ext E17 F43)))
  obtain ⟨T45, h45, X45, e45, W45, st45⟩ := putF X42 hx hZ hown (host := "") (Or.inl (ww hw 18 rfl)) Via.refl e42 f41 f44 (Or.inl (ww hw 19 rfl)) (ww hw 1 rfl) (ty := .int) (by decide) rfl rfl (g := (mkF m 140 (lc5 a1 p2 0 0) [(.int 1), (.ref a1), (.int 0)])) rfl rfl (hb hby d3_140)
  have N47 := Fr.snoc X45 N38 g46
  have f48 : Fld Z h45 a1 zs0 "size" "I" (.int 1) := Fld.same W45 f41
  refine own_go (U' := T45.setTop (mkF m 143 (lc5 a1 p2 0 0) [(.int 0)])) (fun t k => oifN X16 hx hby d3_77 (by decide) (obipush X16 hx hby d3_80 (ogoto (pc := 82) X16 hx hby d3_82 88 (by decide) (st17 _ (st23 _ (ogoto (pc := 91) X23 hx hby d3_91 123 (by decide) (oaloadN X23 hx hby d3_123 rfl rfl (st29 _ (oiloadN X29 hx hby d3_127 rfl (X29.aaload hx (j := (0 : Int32)) (v := (.ref b17)) (by rw [e29]; exact Ar30.1) (State.isArrayOf_alike hZ.alike Ar30.2.1) rfl Ar30.2.2 hin31 hat31 (g := (mkF m 128 (lc5 a1 p2 0 0) [(.int 0), (.ref a7)])) rfl rfl (hb hby d3_128) _ (oiloadN X29 hx hby d3_129 rfl (oiloadN X29 hx hby d3_130 rfl (st36 _ (oaloadN X36 hx hby d3_132 rfl rfl (odup X36 hx hby d3_133 rfl (st42 _ (odupx1 X42 hx hby d3_137 rfl rfl (oiconst X42 hx hby d3_138 (oiadd X42 hx hby d3_139 (st45 _ k)))))))))))))))))))) ?_
  have f49 : Arv Z h45 a7 kc10 (.array .int) (16 : Int32) [(.ref b17)] .null := ((f26.other W36 ne32).other W45 (Ne.symm ne27))
  have f50 : Fld Z h45 a1 zs0 "blocks" "[[I" (.ref a7) := (Fld.other W45 (Fld.other W36 f28 (Or.inl ne40)) (Or.inr (slot_ne (Or.inl (ww hw 12 rfl)) (Or.inl (ww hw 19 rfl)) (by decide) (t := (.array (.array .int))) (t' := .int) (by decide) (by decide))))
  have f51 : Exa Z h45 b17 "[I" := (Exa.wr W45 (Exa.wr W36 (Exa.wr W23 B17)))
  have f52 : Arv Z h45 b17 k17 .int (16 : Int32) [(.int p2)] (.int (0 : Int32)) := (f39.other W45 (Ne.symm ne40))
  obtain ⟨fs, hr, hrun, hended, hW, hsame⟩ := X45.leave (v := some (.int 0)) (fun h => by rw [Bd.returns] at h; cases h)
  refine own_out ⟨_, _, ?_, hrun, hended, _, _, rfl, ?_, ⟨_, rfl⟩, hW, hsame.mono (by decide) (by decide)⟩
  · exact retI X45 hx Bd.returns (hb hby d3_143) hr
  · show Q3_1 Z a1 p2 a7 kc10 h0 n0 _ T45.heap _
    rw [e45]
    exact ⟨b17, k17, rfl, N47, (((((Keep.refl h0 [a7, a1]).ext E17).wr W23 (Or.inl (List.mem_of_getElem? (i := 0) rfl))).wr W36 (Or.inr (Nat.le_of_eq g17.symm))).wr W45 (Or.inl (List.mem_of_getElem? (i := 1) rfl))), (Nat.le_of_eq g17.symm), f49, f48, f50, f51, f52⟩
def Q3_2 (Z : State) (a1 : Addr) (p2 : Int32) (a7 : Addr) (a10 : Addr) (kc11 : ClassId) (p20 : Int32) (kc21 : ClassId) (h0 : Heap) (n0 : Nat) (v : Option Value) (h : Heap) (L : List Loc) : Prop := v = some (.int 1) ∧ Fr n0 L ∧ Keep h0 h [a10, a1] ∧ Arv Z h a10 kc21 .int (16 : Int32) [(.int p20), (.int p2)] (.int (0 : Int32)) ∧ Fld Z h a1 zs0 "size" "I" (.int 2) ∧ Fld Z h a1 zs0 "blocks" "[[I" (.ref a7)
set_option maxRecDepth 65536 in
set_option maxHeartbeats 40000000 in
theorem rm3_2 (l : Launch) (Z : State) (a0 : Array Value) (hw : ∀ d ∈ tables_1, d.before a0 Z = true) (ws : List Jvm.Cond) (a1 : Addr) (p2 : Int32) (a7 : Addr) (a10 : Addr) (kc11 : ClassId) (p20 : Int32) (kc21 : ClassId) (h0 : Heap) (n0 : Nat) (Z0 : n0 ≤ h0.size) (F3 : Fld Z h0 a1 zs0 "size" "I" (.int 1)) (F8 : Fld Z h0 a1 zs0 "blocks" "[[I" (.ref a7)) (F12 : Arv Z h0 a7 kc11 (.array .int) (16 : Int32) [(.ref a10)] .null) (F22 : Arv Z h0 a10 kc21 .int (16 : Int32) [(.int p20)] (.int (0 : Int32))) (g30 : n0 ≤ a10) (ne33 : a1 ≠ a10) (F36 : Exa Z h0 a1 zs0) (g39 : n0 ≤ a1) :
    MetFree l zm1 (head1 (Jvm.Cond.code zm1 prog_21_method_3_code 4 (some .int) :: ws) ({ frames := 0, cells := 0, slots := 0, locals := 0 } : Room)) (fun a U => a = #[(.ref a1), (.int p2)] ∧ Z.Warmed39 U.vm ∧ U.heap = h0) (fun _ _ _ _ _ => True) (fun _ U o U' => ∃ v L, o = .returned v ∧ Q3_2 Z a1 p2 a7 a10 kc11 p20 kc21 h0 n0 v U'.heap L ∧ FrameEnd U o U' L ({ frames := 0, cells := 0, slots := 0, locals := 0 } : Room).cells ({ frames := 0, cells := 0, slots := 0, locals := 0 } : Room).slots) := by
  refine MetFree.of_bodySF (plainFor_of_name pn_com_example_stratafold_stratafold_fhir_IntBlocks) hisR ?_
  intro p e s m args below meth c s₁ Bd hml0 hP hK
  obtain ⟨rfl, hZ, hh⟩ := hP
  have hx := Bd.exec
  have hby := Bd.bytes
  have hml : c.maxLocals = 4 := hml0
  have hown : s.vm.findClass zs0 = some m.cls := findClass_of_methodNamed Bd.named
  have hnm := (name_of_methodNamed Bd.named Bd.method).1
  have X0 : Stand p l e ({ frames := 0, cells := 0, slots := 0, locals := 0 } : Room) s m #[(.ref a1), (.int p2)] below meth c s₁ [] 0 0 := Stand.of_body Bd
  have e0 : s₁.heap = h0 := by rw [← hh, Bd.state]; rfl
  have N0 := Fr.nil n0
  refine own_pre (g' := mkF m 0 (lc3 a1 p2) []) (ef_1 m a1 p2) ?_
  obtain ⟨T4, X4, e4, st4⟩ := getF X0 hx hZ hown (host := "") (Or.inl (ww hw 18 rfl)) Via.refl e0 F3 (g := (mkF m 1 (lc3 a1 p2) [(.ref a1)])) rfl rfl (hb hby d3_1)
  refine own_go (U' := T4.setTop (mkF m 6 (lc3 a1 p2) [(.int 2147483647), (.int 1)])) (fun t k => oaloadN X0 hx hby d3_0 rfl rfl (st4 _ (X4.ldcInt hx hown (mvT hZ (ww hw 20 rfl)) (g := (mkF m 4 (lc3 a1 p2) [(.int 1)])) rfl (hb hby d3_4) _ k))) ?_
  obtain ⟨T5, X5, e5, st5⟩ := getF X4 hx hZ hown (host := "") (Or.inl (ww hw 18 rfl)) Via.refl e4 F3 (g := (mkF m 20 (lc3 a1 p2) [(.ref a1)])) rfl rfl (hb hby d3_20)
  obtain ⟨T6, X6, e6, st6⟩ := getF X5 hx hZ hown (host := "") (Or.inl (ww hw 18 rfl)) Via.refl e5 F3 (g := (mkF m 28 (lc4 a1 p2 0) [(.ref a1)])) rfl rfl (hb hby d3_28)
  obtain ⟨T9, X9, e9, st9⟩ := getF X6 hx hZ hown (host := "") (Or.inl (ww hw 11 rfl)) Via.refl e6 F8 (g := (mkF m 38 (lc5 a1 p2 0 1) [(.ref a1), (.int 0)])) rfl rfl (hb hby d3_38)
  refine own_go (U' := T9.setTop (mkF m 41 (lc5 a1 p2 0 1) [(.ref a7), (.int 0)])) (fun t k => oicY (pc := 6) X4 hx hby d3_6 19 (by decide) (by decide) (oaloadN X4 hx hby d3_19 rfl rfl (st5 _ (obipush X5 hx hby d3_23 (oiushr X5 hx hby d3_25 (oistoreN X5 hx hby d3_26 (lc4 a1 p2 0) rfl (oaloadN X5 hx hby d3_27 rfl rfl (st6 _ (osipush X6 hx hby d3_31 (oiand X6 hx hby d3_34 (oistoreN X6 hx hby d3_35 (lc5 a1 p2 0 1) rfl (oiloadN X6 hx hby d3_36 rfl (oaloadN X6 hx hby d3_37 rfl rfl (st9 _ k)))))))))))))) ?_
  obtain ⟨cl13, Ar13, q13, S13, N13, H13, G13⟩ := id F12
  refine own_go (fun t k => X9.arraylength hx (by rw [e9]; exact Ar13.1) (State.isArrayOf_alike hZ.alike Ar13.2.1) (g := (mkF m 41 (lc5 a1 p2 0 1) [(.ref a7), (.int 0)])) rfl rfl (hb hby d3_41) _ k) ?_
  rw [len_of S13 N13]
  obtain ⟨T14, X14, e14, st14⟩ := getF X9 hx hZ hown (host := "") (Or.inl (ww hw 11 rfl)) Via.refl e9 F8 (g := (mkF m 63 (lc5 a1 p2 0 1) [(.ref a1)])) rfl rfl (hb hby d3_63)
  obtain ⟨cl15, Ar15, q15, S15, N15, H15, G15⟩ := id F12
  have hin16 : ¬ ((0 : Int32) < 0 ∨ cl15.slots.size ≤ ((0 : Int32)).toNatClampNeg) := inb_of S15 ⟨by decide, by decide⟩
  have hat16 : cl15.slots[((0 : Int32)).toNatClampNeg]? = some (.ref a10) := Has.at H15 hin16 rfl
  obtain ⟨T17, X17, e17, st17⟩ := getF X14 hx hZ hown (host := "") (Or.inl (ww hw 11 rfl)) Via.refl e14 F8 (g := (mkF m 96 (lc5 a1 p2 0 1) [(.ref a1), (.int 1)])) rfl rfl (hb hby d3_96)
  obtain ⟨cl18, Ar18, q18, S18, N18, H18, G18⟩ := id F12
  have hin19 : ¬ ((0 : Int32) < 0 ∨ cl18.slots.size ≤ ((0 : Int32)).toNatClampNeg) := inb_of S18 ⟨by decide, by decide⟩
  have hat19 : cl18.slots[((0 : Int32)).toNatClampNeg]? = some (.ref a10) := Has.at H18 hin19 rfl
  refine own_go (U' := T17.setTop (mkF m 101 (lc5 a1 p2 0 1) [(.ref a10), (.int 1)])) (fun t k => oicY (pc := 42) X9 hx hby d3_42 62 (by decide) (by decide) (oaloadN X9 hx hby d3_62 rfl rfl (st14 _ (oiloadN X14 hx hby d3_66 rfl (X14.aaload hx (j := (0 : Int32)) (v := (.ref a10)) (by rw [e14]; exact Ar15.1) (State.isArrayOf_alike hZ.alike Ar15.2.1) rfl Ar15.2.2 hin16 hat16 (g := (mkF m 67 (lc5 a1 p2 0 1) [(.int 0), (.ref a7)])) rfl rfl (hb hby d3_67) _ (onnY (pc := 68) X14 hx hby d3_68 94 (by decide) (oiloadN X14 hx hby d3_94 rfl (oaloadN X14 hx hby d3_95 rfl rfl (st17 _ (oiloadN X17 hx hby d3_99 rfl (X17.aaload hx (j := (0 : Int32)) (v := (.ref a10)) (by rw [e17]; exact Ar18.1) (State.isArrayOf_alike hZ.alike Ar18.2.1) rfl Ar18.2.2 hin19 hat19 (g := (mkF m 100 (lc5 a1 p2 0 1) [(.int 0), (.ref a7), (.int 1)])) rfl rfl (hb hby d3_100) _ k))))))))))) ?_
  obtain ⟨cl23, Ar23, q23, S23, N23, H23, G23⟩ := id F22
  refine own_go (fun t k => X17.arraylength hx (by rw [e17]; exact Ar23.1) (State.isArrayOf_alike hZ.alike Ar23.2.1) (g := (mkF m 101 (lc5 a1 p2 0 1) [(.ref a10), (.int 1)])) rfl rfl (hb hby d3_101) _ k) ?_
  rw [len_of S23 N23]
  obtain ⟨T24, X24, e24, st24⟩ := getF X17 hx hZ hown (host := "") (Or.inl (ww hw 11 rfl)) Via.refl e17 F8 (g := (mkF m 124 (lc5 a1 p2 0 1) [(.ref a1)])) rfl rfl (hb hby d3_124)
  obtain ⟨cl25, Ar25, q25, S25, N25, H25, G25⟩ := id F12
  have hin26 : ¬ ((0 : Int32) < 0 ∨ cl25.slots.size ≤ ((0 : Int32)).toNatClampNeg) := inb_of S25 ⟨by decide, by decide⟩
  have hat26 : cl25.slots[((0 : Int32)).toNatClampNeg]? = some (.ref a10) := Has.at H25 hin26 rfl
  have f27 : Arv Z h0 a10 kc21 .int (16 : Int32) [(.int p20), (.int 0)] (.int (0 : Int32)) := F22.pad (pad_rep [(.int p20)] (.int (0 : Int32)) 1)
  obtain ⟨cl28, Ar28, q28, S28, N28, H28, G28⟩ := id f27
  have hin29 : ¬ ((1 : Int32) < 0 ∨ cl28.slots.size ≤ ((1 : Int32)).toNatClampNeg) := inb_of S28 ⟨by decide, by decide⟩
  obtain ⟨T29, h29, X29, e29, W29, st29⟩ := stI X24 hx hZ e24 Ar28 (j := (1 : Int32)) hin29 (g := (mkF m 131 (lc5 a1 p2 0 1) [(.int p2), (.int 1), (.ref a10)])) rfl rfl (hb hby d3_131)
  have N31 := Fr.snoc X29 N0 g30
  have f32 : Arv Z h29 a10 kc21 .int (16 : Int32) [(.int p20), (.int p2)] (.int (0 : Int32)) := Arv.set Ar28 q28 S28 N28 H28 G28 (by rfl) W29 1 rfl (Nat.le_of_ble_eq_true rfl)
  have f34 : Fld Z h29 a1 zs0 "size" "I" (.int 1) := (Fld.other W29 F3 (Or.inl ne33))
  obtain ⟨T35, X35, e35, st35⟩ := getF X29 hx hZ hown (host := "") (Or.inl (ww hw 18 rfl)) Via.refl e29 f34 (g := (mkF m 134 (lc5 a1 p2 0 1) [(.ref a1), (.ref a1)])) rfl rfl (hb hby d3_134)
  have f37 : Exa Z h29 a1 zs0 := (Exa.wr W29 F36)
  obtain ⟨T38, h38, X38, e38, W38, st38⟩ := putF X35 hx hZ hown (host := "") (Or.inl (ww hw 18 rfl)) Via.refl e35 f34 f37 (Or.inl (ww hw 19 rfl)) (ww hw 1 rfl) (ty := .int) (by decide) rfl rfl (g := (mkF m 140 (lc5 a1 p2 0 1) [(.int 2), (.ref a1), (.int 1)])) rfl rfl (hb hby d3_140)
  have N40 := Fr.snoc X38 N31 g39
  have f41 : Fld Z h38 a1 zs0 "size" "I" (.int 2) := Fld.same W38 f34
  refine own_go (U' := T38.setTop (mkF m 143 (lc5 a1 p2 0 1) [(.int 1)])) (fun t k => oicY (pc := 102) X17 hx hby d3_102 123 (by decide) (by decide) (oaloadN X17 hx hby d3_123 rfl rfl (st24 _ (oiloadN X24 hx hby d3_127 rfl (X24.aaload hx (j := (0 : Int32)) (v := (.ref a10)) (by rw [e24]; exact Ar25.1) (State.isArrayOf_alike hZ.alike Ar25.2.1) rfl Ar25.2.2 hin26 hat26 (g := (mkF m 128 (lc5 a1 p2 0 1) [(.int 0), (.ref a7)])) rfl rfl (hb hby d3_128) _ (oiloadN X24 hx hby d3_129 rfl (oiloadN X24 hx hby d3_130 rfl (st29 _ (oaloadN X29 hx hby d3_132 rfl rfl (odup X29 hx hby d3_133 rfl (st35 _ (odupx1 X35 hx hby d3_137 rfl rfl (oiconst X35 hx hby d3_138 (oiadd X35 hx hby d3_139 (st38 _ k))))))))))))))) ?_
  have f42 : Arv Z h38 a10 kc21 .int (16 : Int32) [(.int p20), (.int p2)] (.int (0 : Int32)) := (f32.other W38 (Ne.symm ne33))
  have f43 : Fld Z h38 a1 zs0 "blocks" "[[I" (.ref a7) := (Fld.other W38 (Fld.other W29 F8 (Or.inl ne33)) (Or.inr (slot_ne (Or.inl (ww hw 12 rfl)) (Or.inl (ww hw 19 rfl)) (by decide) (t := (.array (.array .int))) (t' := .int) (by decide) (by decide))))
  obtain ⟨fs, hr, hrun, hended, hW, hsame⟩ := X38.leave (v := some (.int 1)) (fun h => by rw [Bd.returns] at h; cases h)
  refine own_out ⟨_, _, ?_, hrun, hended, _, _, rfl, ?_, ⟨_, rfl⟩, hW, hsame.mono (by decide) (by decide)⟩
  · exact retI X38 hx Bd.returns (hb hby d3_143) hr
  · show Q3_2 Z a1 p2 a7 a10 kc11 p20 kc21 h0 n0 _ T38.heap _
    rw [e38]
    exact ⟨rfl, N40, (((Keep.refl h0 [a10, a1]).wr W29 (Or.inl (List.mem_of_getElem? (i := 0) rfl))).wr W38 (Or.inl (List.mem_of_getElem? (i := 1) rfl))), f42, f41, f43⟩
def Q3_3 (Z : State) (a1 : Addr) (p2 : Int32) (a7 : Addr) (a10 : Addr) (kc11 : ClassId) (p20 : Int32) (p21 : Int32) (kc22 : ClassId) (h0 : Heap) (n0 : Nat) (v : Option Value) (h : Heap) (L : List Loc) : Prop := v = some (.int 2) ∧ Fr n0 L ∧ Keep h0 h [a10, a1] ∧ Arv Z h a10 kc22 .int (16 : Int32) [(.int p20), (.int p21), (.int p2)] (.int (0 : Int32)) ∧ Fld Z h a1 zs0 "size" "I" (.int 3) ∧ Fld Z h a1 zs0 "blocks" "[[I" (.ref a7)
set_option maxRecDepth 65536 in
set_option maxHeartbeats 40000000 in
theorem rm3_3 (l : Launch) (Z : State) (a0 : Array Value) (hw : ∀ d ∈ tables_1, d.before a0 Z = true) (ws : List Jvm.Cond) (a1 : Addr) (p2 : Int32) (a7 : Addr) (a10 : Addr) (kc11 : ClassId) (p20 : Int32) (p21 : Int32) (kc22 : ClassId) (h0 : Heap) (n0 : Nat) (Z0 : n0 ≤ h0.size) (F3 : Fld Z h0 a1 zs0 "size" "I" (.int 2)) (F8 : Fld Z h0 a1 zs0 "blocks" "[[I" (.ref a7)) (F12 : Arv Z h0 a7 kc11 (.array .int) (16 : Int32) [(.ref a10)] .null) (F23 : Arv Z h0 a10 kc22 .int (16 : Int32) [(.int p20), (.int p21)] (.int (0 : Int32))) (g31 : n0 ≤ a10) (ne34 : a1 ≠ a10) (F37 : Exa Z h0 a1 zs0) (g40 : n0 ≤ a1) :
    MetFree l zm1 (head1 (Jvm.Cond.code zm1 prog_21_method_3_code 4 (some .int) :: ws) ({ frames := 0, cells := 0, slots := 0, locals := 0 } : Room)) (fun a U => a = #[(.ref a1), (.int p2)] ∧ Z.Warmed39 U.vm ∧ U.heap = h0) (fun _ _ _ _ _ => True) (fun _ U o U' => ∃ v L, o = .returned v ∧ Q3_3 Z a1 p2 a7 a10 kc11 p20 p21 kc22 h0 n0 v U'.heap L ∧ FrameEnd U o U' L ({ frames := 0, cells := 0, slots := 0, locals := 0 } : Room).cells ({ frames := 0, cells := 0, slots := 0, locals := 0 } : Room).slots) := by
  refine MetFree.of_bodySF (plainFor_of_name pn_com_example_stratafold_stratafold_fhir_IntBlocks) hisR ?_
  intro p e s m args below meth c s₁ Bd hml0 hP hK
  obtain ⟨rfl, hZ, hh⟩ := hP
  have hx := Bd.exec
  have hby := Bd.bytes
  have hml : c.maxLocals = 4 := hml0
  have hown : s.vm.findClass zs0 = some m.cls := findClass_of_methodNamed Bd.named
  have hnm := (name_of_methodNamed Bd.named Bd.method).1
  have X0 : Stand p l e ({ frames := 0, cells := 0, slots := 0, locals := 0 } : Room) s m #[(.ref a1), (.int p2)] below meth c s₁ [] 0 0 := Stand.of_body Bd
  have e0 : s₁.heap = h0 := by rw [← hh, Bd.state]; rfl
  have N0 := Fr.nil n0
  refine own_pre (g' := mkF m 0 (lc3 a1 p2) []) (ef_1 m a1 p2) ?_
  obtain ⟨T4, X4, e4, st4⟩ := getF X0 hx hZ hown (host := "") (Or.inl (ww hw 18 rfl)) Via.refl e0 F3 (g := (mkF m 1 (lc3 a1 p2) [(.ref a1)])) rfl rfl (hb hby d3_1)
  refine own_go (U' := T4.setTop (mkF m 6 (lc3 a1 p2) [(.int 2147483647), (.int 2)])) (fun t k => oaloadN X0 hx hby d3_0 rfl rfl (st4 _ (X4.ldcInt hx hown (mvT hZ (ww hw 20 rfl)) (g := (mkF m 4 (lc3 a1 p2) [(.int 2)])) rfl (hb hby d3_4) _ k))) ?_
  obtain ⟨T5, X5, e5, st5⟩ := getF X4 hx hZ hown (host := "") (Or.inl (ww hw 18 rfl)) Via.refl e4 F3 (g := (mkF m 20 (lc3 a1 p2) [(.ref a1)])) rfl rfl (hb hby d3_20)
  obtain ⟨T6, X6, e6, st6⟩ := getF X5 hx hZ hown (host := "") (Or.inl (ww hw 18 rfl)) Via.refl e5 F3 (g := (mkF m 28 (lc4 a1 p2 0) [(.ref a1)])) rfl rfl (hb hby d3_28)
  obtain ⟨T9, X9, e9, st9⟩ := getF X6 hx hZ hown (host := "") (Or.inl (ww hw 11 rfl)) Via.refl e6 F8 (g := (mkF m 38 (lc5 a1 p2 0 2) [(.ref a1), (.int 0)])) rfl rfl (hb hby d3_38)
  refine own_go (U' := T9.setTop (mkF m 41 (lc5 a1 p2 0 2) [(.ref a7), (.int 0)])) (fun t k => oicY (pc := 6) X4 hx hby d3_6 19 (by decide) (by decide) (oaloadN X4 hx hby d3_19 rfl rfl (st5 _ (obipush X5 hx hby d3_23 (oiushr X5 hx hby d3_25 (oistoreN X5 hx hby d3_26 (lc4 a1 p2 0) rfl (oaloadN X5 hx hby d3_27 rfl rfl (st6 _ (osipush X6 hx hby d3_31 (oiand X6 hx hby d3_34 (oistoreN X6 hx hby d3_35 (lc5 a1 p2 0 2) rfl (oiloadN X6 hx hby d3_36 rfl (oaloadN X6 hx hby d3_37 rfl rfl (st9 _ k)))))))))))))) ?_
  obtain ⟨cl13, Ar13, q13, S13, N13, H13, G13⟩ := id F12
  refine own_go (fun t k => X9.arraylength hx (by rw [e9]; exact Ar13.1) (State.isArrayOf_alike hZ.alike Ar13.2.1) (g := (mkF m 41 (lc5 a1 p2 0 2) [(.ref a7), (.int 0)])) rfl rfl (hb hby d3_41) _ k) ?_
  rw [len_of S13 N13]
  obtain ⟨T14, X14, e14, st14⟩ := getF X9 hx hZ hown (host := "") (Or.inl (ww hw 11 rfl)) Via.refl e9 F8 (g := (mkF m 63 (lc5 a1 p2 0 2) [(.ref a1)])) rfl rfl (hb hby d3_63)
  obtain ⟨cl15, Ar15, q15, S15, N15, H15, G15⟩ := id F12
  have hin16 : ¬ ((0 : Int32) < 0 ∨ cl15.slots.size ≤ ((0 : Int32)).toNatClampNeg) := inb_of S15 ⟨by decide, by decide⟩
  have hat16 : cl15.slots[((0 : Int32)).toNatClampNeg]? = some (.ref a10) := Has.at H15 hin16 rfl
  obtain ⟨T17, X17, e17, st17⟩ := getF X14 hx hZ hown (host := "") (Or.inl (ww hw 11 rfl)) Via.refl e14 F8 (g := (mkF m 96 (lc5 a1 p2 0 2) [(.ref a1), (.int 2)])) rfl rfl (hb hby d3_96)
  obtain ⟨cl18, Ar18, q18, S18, N18, H18, G18⟩ := id F12
  have hin19 : ¬ ((0 : Int32) < 0 ∨ cl18.slots.size ≤ ((0 : Int32)).toNatClampNeg) := inb_of S18 ⟨by decide, by decide⟩
  have hat19 : cl18.slots[((0 : Int32)).toNatClampNeg]? = some (.ref a10) := Has.at H18 hin19 rfl
  refine own_go (U' := T17.setTop (mkF m 101 (lc5 a1 p2 0 2) [(.ref a10), (.int 2)])) (fun t k => oicY (pc := 42) X9 hx hby d3_42 62 (by decide) (by decide) (oaloadN X9 hx hby d3_62 rfl rfl (st14 _ (oiloadN X14 hx hby d3_66 rfl (X14.aaload hx (j := (0 : Int32)) (v := (.ref a10)) (by rw [e14]; exact Ar15.1) (State.isArrayOf_alike hZ.alike Ar15.2.1) rfl Ar15.2.2 hin16 hat16 (g := (mkF m 67 (lc5 a1 p2 0 2) [(.int 0), (.ref a7)])) rfl rfl (hb hby d3_67) _ (onnY (pc := 68) X14 hx hby d3_68 94 (by decide) (oiloadN X14 hx hby d3_94 rfl (oaloadN X14 hx hby d3_95 rfl rfl (st17 _ (oiloadN X17 hx hby d3_99 rfl (X17.aaload hx (j := (0 : Int32)) (v := (.ref a10)) (by rw [e17]; exact Ar18.1) (State.isArrayOf_alike hZ.alike Ar18.2.1) rfl Ar18.2.2 hin19 hat19 (g := (mkF m 100 (lc5 a1 p2 0 2) [(.int 0), (.ref a7), (.int 2)])) rfl rfl (hb hby d3_100) _ k))))))))))) ?_
  obtain ⟨cl24, Ar24, q24, S24, N24, H24, G24⟩ := id F23
  refine own_go (fun t k => X17.arraylength hx (by rw [e17]; exact Ar24.1) (State.isArrayOf_alike hZ.alike Ar24.2.1) (g := (mkF m 101 (lc5 a1 p2 0 2) [(.ref a10), (.int 2)])) rfl rfl (hb hby d3_101) _ k) ?_
  rw [len_of S24 N24]
  obtain ⟨T25, X25, e25, st25⟩ := getF X17 hx hZ hown (host := "") (Or.inl (ww hw 11 rfl)) Via.refl e17 F8 (g := (mkF m 124 (lc5 a1 p2 0 2) [(.ref a1)])) rfl rfl (hb hby d3_124)
  obtain ⟨cl26, Ar26, q26, S26, N26, H26, G26⟩ := id F12
  have hin27 : ¬ ((0 : Int32) < 0 ∨ cl26.slots.size ≤ ((0 : Int32)).toNatClampNeg) := inb_of S26 ⟨by decide, by decide⟩
  have hat27 : cl26.slots[((0 : Int32)).toNatClampNeg]? = some (.ref a10) := Has.at H26 hin27 rfl
  have f28 : Arv Z h0 a10 kc22 .int (16 : Int32) [(.int p20), (.int p21), (.int 0)] (.int (0 : Int32)) := F23.pad (pad_rep [(.int p20), (.int p21)] (.int (0 : Int32)) 1)
  obtain ⟨cl29, Ar29, q29, S29, N29, H29, G29⟩ := id f28
  have hin30 : ¬ ((2 : Int32) < 0 ∨ cl29.slots.size ≤ ((2 : Int32)).toNatClampNeg) := inb_of S29 ⟨by decide, by decide⟩
  obtain ⟨T30, h30, X30, e30, W30, st30⟩ := stI X25 hx hZ e25 Ar29 (j := (2 : Int32)) hin30 (g := (mkF m 131 (lc5 a1 p2 0 2) [(.int p2), (.int 2), (.ref a10)])) rfl rfl (hb hby d3_131)
  have N32 := Fr.snoc X30 N0 g31
  have f33 : Arv Z h30 a10 kc22 .int (16 : Int32) [(.int p20), (.int p21), (.int p2)] (.int (0 : Int32)) := Arv.set Ar29 q29 S29 N29 H29 G29 (by rfl) W30 2 rfl (Nat.le_of_ble_eq_true rfl)
  have f35 : Fld Z h30 a1 zs0 "size" "I" (.int 2) := (Fld.other W30 F3 (Or.inl ne34))
  obtain ⟨T36, X36, e36, st36⟩ := getF X30 hx hZ hown (host := "") (Or.inl (ww hw 18 rfl)) Via.refl e30 f35 (g := (mkF m 134 (lc5 a1 p2 0 2) [(.ref a1), (.ref a1)])) rfl rfl (hb hby d3_134)
  have f38 : Exa Z h30 a1 zs0 := (Exa.wr W30 F37)
  obtain ⟨T39, h39, X39, e39, W39, st39⟩ := putF X36 hx hZ hown (host := "") (Or.inl (ww hw 18 rfl)) Via.refl e36 f35 f38 (Or.inl (ww hw 19 rfl)) (ww hw 1 rfl) (ty := .int) (by decide) rfl rfl (g := (mkF m 140 (lc5 a1 p2 0 2) [(.int 3), (.ref a1), (.int 2)])) rfl rfl (hb hby d3_140)
  have N41 := Fr.snoc X39 N32 g40
  have f42 : Fld Z h39 a1 zs0 "size" "I" (.int 3) := Fld.same W39 f35
  refine own_go (U' := T39.setTop (mkF m 143 (lc5 a1 p2 0 2) [(.int 2)])) (fun t k => oicY (pc := 102) X17 hx hby d3_102 123 (by decide) (by decide) (oaloadN X17 hx hby d3_123 rfl rfl (st25 _ (oiloadN X25 hx hby d3_127 rfl (X25.aaload hx (j := (0 : Int32)) (v := (.ref a10)) (by rw [e25]; exact Ar26.1) (State.isArrayOf_alike hZ.alike Ar26.2.1) rfl Ar26.2.2 hin27 hat27 (g := (mkF m 128 (lc5 a1 p2 0 2) [(.int 0), (.ref a7)])) rfl rfl (hb hby d3_128) _ (oiloadN X25 hx hby d3_129 rfl (oiloadN X25 hx hby d3_130 rfl (st30 _ (oaloadN X30 hx hby d3_132 rfl rfl (odup X30 hx hby d3_133 rfl (st36 _ (odupx1 X36 hx hby d3_137 rfl rfl (oiconst X36 hx hby d3_138 (oiadd X36 hx hby d3_139 (st39 _ k))))))))))))))) ?_
  have f43 : Arv Z h39 a10 kc22 .int (16 : Int32) [(.int p20), (.int p21), (.int p2)] (.int (0 : Int32)) := (f33.other W39 (Ne.symm ne34))
  have f44 : Fld Z h39 a1 zs0 "blocks" "[[I" (.ref a7) := (Fld.other W39 (Fld.other W30 F8 (Or.inl ne34)) (Or.inr (slot_ne (Or.inl (ww hw 12 rfl)) (Or.inl (ww hw 19 rfl)) (by decide) (t := (.array (.array .int))) (t' := .int) (by decide) (by decide))))
  obtain ⟨fs, hr, hrun, hended, hW, hsame⟩ := X39.leave (v := some (.int 2)) (fun h => by rw [Bd.returns] at h; cases h)
  refine own_out ⟨_, _, ?_, hrun, hended, _, _, rfl, ?_, ⟨_, rfl⟩, hW, hsame.mono (by decide) (by decide)⟩
  · exact retI X39 hx Bd.returns (hb hby d3_143) hr
  · show Q3_3 Z a1 p2 a7 a10 kc11 p20 p21 kc22 h0 n0 _ T39.heap _
    rw [e39]
    exact ⟨rfl, N41, (((Keep.refl h0 [a10, a1]).wr W30 (Or.inl (List.mem_of_getElem? (i := 0) rfl))).wr W39 (Or.inl (List.mem_of_getElem? (i := 1) rfl))), f43, f42, f44⟩
def Q6_4 (Z : State)  (h0 : Heap) (n0 : Nat) (v : Option Value) (h : Heap) (L : List Loc) : Prop := v = some (.int 0) ∧ Fr n0 L ∧ h = h0
set_option maxRecDepth 65536 in
set_option maxHeartbeats 40000000 in
theorem rm6_4 (l : Launch) (Z : State) (a0 : Array Value) (hw : ∀ d ∈ tables_1, d.before a0 Z = true) (ws : List Jvm.Cond)  (h0 : Heap) (n0 : Nat) (Z0 : n0 ≤ h0.size) :
    MetFree l zm2 (head1 (Jvm.Cond.code zm2 jdk_41_method_11_code 3 (some .int) :: ws) ({ frames := 0, cells := 0, slots := 0, locals := 0 } : Room)) (fun a U => a = #[(.int 0), (.int 3), .null] ∧ Z.Warmed39 U.vm ∧ U.heap = h0) (fun _ _ _ _ _ => True) (fun _ U o U' => ∃ v L, o = .returned v ∧ Q6_4 Z  h0 n0 v U'.heap L ∧ FrameEnd U o U' L ({ frames := 0, cells := 0, slots := 0, locals := 0 } : Room).cells ({ frames := 0, cells := 0, slots := 0, locals := 0 } : Room).slots) := by
  refine MetFree.of_bodySF (plainFor_of_name pn_jdk_internal_util_Preconditions) hisR ?_
  intro p e s m args below meth c s₁ Bd hml0 hP hK
  obtain ⟨rfl, hZ, hh⟩ := hP
  have hx := Bd.exec
  have hby := Bd.bytes
  have hml : c.maxLocals = 3 := hml0
  have hown : s.vm.findClass zs1 = some m.cls := findClass_of_methodNamed Bd.named
  have hnm := (name_of_methodNamed Bd.named Bd.method).1
  have X0 : Stand p l e ({ frames := 0, cells := 0, slots := 0, locals := 0 } : Room) s m #[(.int 0), (.int 3), .null] below meth c s₁ [] 0 0 := Stand.of_body Bd
  have e0 : s₁.heap = h0 := by rw [← hh, Bd.state]; rfl
  have N0 := Fr.nil n0
  refine own_pre (g' := mkF m 0 (lc13 0 3) []) (ef_2 m (0 : Int32) (3 : Int32)) ?_
  refine own_go (U' := s₁.setTop (mkF m 1 (lc13 0 3) [(.int 0)])) (fun t k => oiloadN X0 hx hby d6_0 rfl k) ?_
  refine own_go (U' := s₁.setTop (mkF m 6 (lc13 0 3) [(.int 3), (.int 0)])) (fun t k => oifN X0 hx hby d6_1 (by decide) (oiloadN X0 hx hby d6_4 rfl (oiloadN X0 hx hby d6_5 rfl k))) ?_
  refine own_go (U' := s₁.setTop (mkF m 17 (lc13 0 3) [(.int 0)])) (fun t k => oicY (pc := 6) X0 hx hby d6_6 16 (by decide) (by decide) (oiloadN X0 hx hby d6_16 rfl k)) ?_
  obtain ⟨fs, hr, hrun, hended, hW, hsame⟩ := X0.leave (v := some (.int 0)) (fun h => by rw [Bd.returns] at h; cases h)
  refine own_out ⟨_, _, ?_, hrun, hended, _, _, rfl, ?_, ⟨_, rfl⟩, hW, hsame.mono (by decide) (by decide)⟩
  · exact retI X0 hx Bd.returns (hb hby d6_17) hr
  · show Q6_4 Z  h0 n0 _ s₁.heap _
    rw [e0]
    exact ⟨rfl, N0, rfl⟩
def Q5_5 (Z : State)  (h0 : Heap) (n0 : Nat) (v : Option Value) (h : Heap) (L : List Loc) : Prop := v = some (.int 0) ∧ Fr n0 L ∧ h = h0
set_option maxRecDepth 65536 in
set_option maxHeartbeats 40000000 in
theorem rm5_5 (l : Launch) (Z : State) (a0 : Array Value) (hw : ∀ d ∈ tables_1, d.before a0 Z = true) (ws : List Jvm.Cond)  (h0 : Heap) (n0 : Nat) (Z0 : n0 ≤ h0.size) :
    MetFree l zm3 (head1 (Jvm.Cond.code zm3 jdk_31_method_17_code 2 (some .int) :: ws) ({ frames := 1, cells := 0, slots := 0, locals := 14 } : Room)) (fun a U => a = #[(.int 0), (.int 3)] ∧ Z.Warmed39 U.vm ∧ U.heap = h0) (fun _ _ _ _ _ => True) (fun _ U o U' => ∃ v L, o = .returned v ∧ Q5_5 Z  h0 n0 v U'.heap L ∧ FrameEnd U o U' L ({ frames := 1, cells := 0, slots := 0, locals := 14 } : Room).cells ({ frames := 1, cells := 0, slots := 0, locals := 14 } : Room).slots) := by
  refine MetFree.of_bodySF (plainFor_of_name pn_java_util_Objects) hisR ?_
  intro p e s m args below meth c s₁ Bd hml0 hP hK
  obtain ⟨rfl, hZ, hh⟩ := hP
  have hx := Bd.exec
  have hby := Bd.bytes
  have hml : c.maxLocals = 2 := hml0
  have hown : s.vm.findClass zs3 = some m.cls := findClass_of_methodNamed Bd.named
  have hnm := (name_of_methodNamed Bd.named Bd.method).1
  have X0 : Stand p l e ({ frames := 1, cells := 0, slots := 0, locals := 14 } : Room) s m #[(.int 0), (.int 3)] below meth c s₁ [] 0 0 := Stand.of_body Bd
  have e0 : s₁.heap = h0 := by rw [← hh, Bd.state]; rfl
  have N0 := Fr.nil n0
  refine own_pre (g' := mkF m 0 (lc12 0 3) []) (ef_3 m (0 : Int32) (3 : Int32)) ?_
  obtain ⟨_, T1, L1, X1, hQ1, st1⟩ := ocallS X0 hx hZ zm2 hown (ww hw 33 rfl) (ww hw 34 rfl) (by decide) (ww hw 36 rfl) (ww hw 35 rfl) e0 (rm6_4 l Z a0 hw []  h0 n0 Z0 ) (st := [.null, (.int 3), (.int 0)]) rfl 0 rfl (by decide) (pc := 3) (Ls := (lc12 0 3)) hml rfl (lenOf pd_2 rfl) d5_3 hby
  obtain ⟨rfl, N1q, e1⟩ := hQ1
  have N2 := Fr.app N0 N1q
  refine own_go (U' := T1.setTop (mkF m 6 (lc12 0 3) [(.int 0)])) (fun t k => oiloadN X0 hx hby d5_0 rfl (oiloadN X0 hx hby d5_1 rfl (onull X0 hx hby d5_2 (st1 _ k)))) ?_
  obtain ⟨fs, hr, hrun, hended, hW, hsame⟩ := X1.leave (v := some (.int 0)) (fun h => by rw [Bd.returns] at h; cases h)
  refine own_out ⟨_, _, ?_, hrun, hended, _, _, rfl, ?_, ⟨_, rfl⟩, hW, hsame.mono (by decide) (by decide)⟩
  · exact retI X1 hx Bd.returns (hb hby d5_6) hr
  · show Q5_5 Z  h0 n0 _ T1.heap _
    rw [e1]
    exact ⟨rfl, N2, rfl⟩
def Q7_6 (Z : State) (a1 : Addr) (a6 : Addr) (a9 : Addr) (kc10 : ClassId) (p14 : Int32) (p15 : Int32) (p16 : Int32) (kc17 : ClassId) (h0 : Heap) (n0 : Nat) (v : Option Value) (h : Heap) (L : List Loc) : Prop := v = some (.int p14) ∧ Fr n0 L ∧ h = h0
set_option maxRecDepth 65536 in
set_option maxHeartbeats 40000000 in
theorem rm7_6 (l : Launch) (Z : State) (a0 : Array Value) (hw : ∀ d ∈ tables_1, d.before a0 Z = true) (ws : List Jvm.Cond) (a1 : Addr) (a6 : Addr) (a9 : Addr) (kc10 : ClassId) (p14 : Int32) (p15 : Int32) (p16 : Int32) (kc17 : ClassId) (h0 : Heap) (n0 : Nat) (Z0 : n0 ≤ h0.size) (F2 : Fld Z h0 a1 zs0 "size" "I" (.int 3)) (F7 : Fld Z h0 a1 zs0 "blocks" "[[I" (.ref a6)) (F11 : Arv Z h0 a6 kc10 (.array .int) (16 : Int32) [(.ref a9)] .null) (F18 : Arv Z h0 a9 kc17 .int (16 : Int32) [(.int p14), (.int p15), (.int p16)] (.int (0 : Int32))) :
    MetFree l zm4 (head1 (Jvm.Cond.code zm4 prog_21_method_4_code 2 (some .int) :: ws) ({ frames := 2, cells := 0, slots := 0, locals := 27 } : Room)) (fun a U => a = #[(.ref a1), (.int 0)] ∧ Z.Warmed39 U.vm ∧ U.heap = h0) (fun _ _ _ _ _ => True) (fun _ U o U' => ∃ v L, o = .returned v ∧ Q7_6 Z a1 a6 a9 kc10 p14 p15 p16 kc17 h0 n0 v U'.heap L ∧ FrameEnd U o U' L ({ frames := 2, cells := 0, slots := 0, locals := 27 } : Room).cells ({ frames := 2, cells := 0, slots := 0, locals := 27 } : Room).slots) := by
  refine MetFree.of_bodySF (plainFor_of_name pn_com_example_stratafold_stratafold_fhir_IntBlocks) hisR ?_
  intro p e s m args below meth c s₁ Bd hml0 hP hK
  obtain ⟨rfl, hZ, hh⟩ := hP
  have hx := Bd.exec
  have hby := Bd.bytes
  have hml : c.maxLocals = 2 := hml0
  have hown : s.vm.findClass zs0 = some m.cls := findClass_of_methodNamed Bd.named
  have hnm := (name_of_methodNamed Bd.named Bd.method).1
  have X0 : Stand p l e ({ frames := 2, cells := 0, slots := 0, locals := 27 } : Room) s m #[(.ref a1), (.int 0)] below meth c s₁ [] 0 0 := Stand.of_body Bd
  have e0 : s₁.heap = h0 := by rw [← hh, Bd.state]; rfl
  have N0 := Fr.nil n0
  refine own_pre (g' := mkF m 0 (lc11 a1 0) []) (ef_4 m a1 (0 : Int32)) ?_
  obtain ⟨T3, X3, e3, st3⟩ := getF X0 hx hZ hown (host := "") (Or.inl (ww hw 18 rfl)) Via.refl e0 F2 (g := (mkF m 2 (lc11 a1 0) [(.ref a1), (.int 0)])) rfl rfl (hb hby d7_2)
  obtain ⟨_, T4, L4, X4, hQ4, st4⟩ := ocallS X3 hx hZ zm3 hown (ww hw 29 rfl) (ww hw 30 rfl) (by decide) (ww hw 32 rfl) (ww hw 31 rfl) e3 (rm5_5 l Z a0 hw []  h0 n0 Z0 ) (st := [(.int 3), (.int 0)]) rfl 0 rfl (by decide) (pc := 5) (Ls := (lc11 a1 0)) hml rfl (lenOf pd_3 rfl) d7_5 hby
  obtain ⟨rfl, N4q, e4⟩ := hQ4
  have N5 := Fr.app N0 N4q
  obtain ⟨T8, X8, e8, st8⟩ := getF X4 hx hZ hown (host := "") (Or.inl (ww hw 11 rfl)) Via.refl e4 F7 (g := (mkF m 10 (lc11 a1 0) [(.ref a1)])) rfl rfl (hb hby d7_10)
  obtain ⟨cl12, Ar12, q12, S12, N12, H12, G12⟩ := id F11
  have hin13 : ¬ ((0 : Int32) < 0 ∨ cl12.slots.size ≤ ((0 : Int32)).toNatClampNeg) := inb_of S12 ⟨by decide, by decide⟩
  have hat13 : cl12.slots[((0 : Int32)).toNatClampNeg]? = some (.ref a9) := Has.at H12 hin13 rfl
  obtain ⟨cl19, Ar19, q19, S19, N19, H19, G19⟩ := id F18
  have hin20 : ¬ ((0 : Int32) < 0 ∨ cl19.slots.size ≤ ((0 : Int32)).toNatClampNeg) := inb_of S19 ⟨by decide, by decide⟩
  have hat20 : cl19.slots[((0 : Int32)).toNatClampNeg]? = some (.int p14) := Has.at H19 hin20 rfl
  refine own_go (U' := T8.setTop (mkF m 24 (lc11 a1 0) [(.int p14)])) (fun t k => oiloadN X0 hx hby d7_0 rfl (oaloadN X0 hx hby d7_1 rfl rfl (st3 _ (st4 _ (opop X4 hx hby d7_8 rfl (oaloadN X4 hx hby d7_9 rfl rfl (st8 _ (oiloadN X8 hx hby d7_13 rfl (obipush X8 hx hby d7_14 (oiushr X8 hx hby d7_16 (X8.aaload hx (j := (0 : Int32)) (v := (.ref a9)) (by rw [e8]; exact Ar12.1) (State.isArrayOf_alike hZ.alike Ar12.2.1) rfl Ar12.2.2 hin13 hat13 (g := (mkF m 17 (lc11 a1 0) [(.int 0), (.ref a6)])) rfl rfl (hb hby d7_17) _ (oiloadN X8 hx hby d7_18 rfl (osipush X8 hx hby d7_19 (oiand X8 hx hby d7_22 (X8.iaload hx (j := (0 : Int32)) (v := (.int p14)) (by rw [e8]; exact Ar19.1) (State.isArrayOf_alike hZ.alike Ar19.2.1) Ar19.2.2 hin20 hat20 (g := (mkF m 23 (lc11 a1 0) [(.int 0), (.ref a9)])) rfl rfl (hb hby d7_23) _ k))))))))))))))) ?_
  obtain ⟨fs, hr, hrun, hended, hW, hsame⟩ := X8.leave (v := some (.int p14)) (fun h => by rw [Bd.returns] at h; cases h)
  refine own_out ⟨_, _, ?_, hrun, hended, _, _, rfl, ?_, ⟨_, rfl⟩, hW, hsame.mono (by decide) (by decide)⟩
  · exact retI X8 hx Bd.returns (hb hby d7_24) hr
  · show Q7_6 Z a1 a6 a9 kc10 p14 p15 p16 kc17 h0 n0 _ T8.heap _
    rw [e8]
    exact ⟨rfl, N5, rfl⟩
def Q6_7 (Z : State)  (h0 : Heap) (n0 : Nat) (v : Option Value) (h : Heap) (L : List Loc) : Prop := v = some (.int 1) ∧ Fr n0 L ∧ h = h0
set_option maxRecDepth 65536 in
set_option maxHeartbeats 40000000 in
theorem rm6_7 (l : Launch) (Z : State) (a0 : Array Value) (hw : ∀ d ∈ tables_1, d.before a0 Z = true) (ws : List Jvm.Cond)  (h0 : Heap) (n0 : Nat) (Z0 : n0 ≤ h0.size) :
    MetFree l zm2 (head1 (Jvm.Cond.code zm2 jdk_41_method_11_code 3 (some .int) :: ws) ({ frames := 0, cells := 0, slots := 0, locals := 0 } : Room)) (fun a U => a = #[(.int 1), (.int 3), .null] ∧ Z.Warmed39 U.vm ∧ U.heap = h0) (fun _ _ _ _ _ => True) (fun _ U o U' => ∃ v L, o = .returned v ∧ Q6_7 Z  h0 n0 v U'.heap L ∧ FrameEnd U o U' L ({ frames := 0, cells := 0, slots := 0, locals := 0 } : Room).cells ({ frames := 0, cells := 0, slots := 0, locals := 0 } : Room).slots) := by
  refine MetFree.of_bodySF (plainFor_of_name pn_jdk_internal_util_Preconditions) hisR ?_
  intro p e s m args below meth c s₁ Bd hml0 hP hK
  obtain ⟨rfl, hZ, hh⟩ := hP
  have hx := Bd.exec
  have hby := Bd.bytes
  have hml : c.maxLocals = 3 := hml0
  have hown : s.vm.findClass zs1 = some m.cls := findClass_of_methodNamed Bd.named
  have hnm := (name_of_methodNamed Bd.named Bd.method).1
  have X0 : Stand p l e ({ frames := 0, cells := 0, slots := 0, locals := 0 } : Room) s m #[(.int 1), (.int 3), .null] below meth c s₁ [] 0 0 := Stand.of_body Bd
  have e0 : s₁.heap = h0 := by rw [← hh, Bd.state]; rfl
  have N0 := Fr.nil n0
  refine own_pre (g' := mkF m 0 (lc13 1 3) []) (ef_2 m (1 : Int32) (3 : Int32)) ?_
  refine own_go (U' := s₁.setTop (mkF m 1 (lc13 1 3) [(.int 1)])) (fun t k => oiloadN X0 hx hby d6_0 rfl k) ?_
  refine own_go (U' := s₁.setTop (mkF m 6 (lc13 1 3) [(.int 3), (.int 1)])) (fun t k => oifN X0 hx hby d6_1 (by decide) (oiloadN X0 hx hby d6_4 rfl (oiloadN X0 hx hby d6_5 rfl k))) ?_
  refine own_go (U' := s₁.setTop (mkF m 17 (lc13 1 3) [(.int 1)])) (fun t k => oicY (pc := 6) X0 hx hby d6_6 16 (by decide) (by decide) (oiloadN X0 hx hby d6_16 rfl k)) ?_
  obtain ⟨fs, hr, hrun, hended, hW, hsame⟩ := X0.leave (v := some (.int 1)) (fun h => by rw [Bd.returns] at h; cases h)
  refine own_out ⟨_, _, ?_, hrun, hended, _, _, rfl, ?_, ⟨_, rfl⟩, hW, hsame.mono (by decide) (by decide)⟩
  · exact retI X0 hx Bd.returns (hb hby d6_17) hr
  · show Q6_7 Z  h0 n0 _ s₁.heap _
    rw [e0]
    exact ⟨rfl, N0, rfl⟩
def Q5_8 (Z : State)  (h0 : Heap) (n0 : Nat) (v : Option Value) (h : Heap) (L : List Loc) : Prop := v = some (.int 1) ∧ Fr n0 L ∧ h = h0
set_option maxRecDepth 65536 in
set_option maxHeartbeats 40000000 in
theorem rm5_8 (l : Launch) (Z : State) (a0 : Array Value) (hw : ∀ d ∈ tables_1, d.before a0 Z = true) (ws : List Jvm.Cond)  (h0 : Heap) (n0 : Nat) (Z0 : n0 ≤ h0.size) :
    MetFree l zm3 (head1 (Jvm.Cond.code zm3 jdk_31_method_17_code 2 (some .int) :: ws) ({ frames := 1, cells := 0, slots := 0, locals := 14 } : Room)) (fun a U => a = #[(.int 1), (.int 3)] ∧ Z.Warmed39 U.vm ∧ U.heap = h0) (fun _ _ _ _ _ => True) (fun _ U o U' => ∃ v L, o = .returned v ∧ Q5_8 Z  h0 n0 v U'.heap L ∧ FrameEnd U o U' L ({ frames := 1, cells := 0, slots := 0, locals := 14 } : Room).cells ({ frames := 1, cells := 0, slots := 0, locals := 14 } : Room).slots) := by
  refine MetFree.of_bodySF (plainFor_of_name pn_java_util_Objects) hisR ?_
  intro p e s m args below meth c s₁ Bd hml0 hP hK
  obtain ⟨rfl, hZ, hh⟩ := hP
  have hx := Bd.exec
  have hby := Bd.bytes
  have hml : c.maxLocals = 2 := hml0
  have hown : s.vm.findClass zs3 = some m.cls := findClass_of_methodNamed Bd.named
  have hnm := (name_of_methodNamed Bd.named Bd.method).1
  have X0 : Stand p l e ({ frames := 1, cells := 0, slots := 0, locals := 14 } : Room) s m #[(.int 1), (.int 3)] below meth c s₁ [] 0 0 := Stand.of_body Bd
  have e0 : s₁.heap = h0 := by rw [← hh, Bd.state]; rfl
  have N0 := Fr.nil n0
  refine own_pre (g' := mkF m 0 (lc12 1 3) []) (ef_3 m (1 : Int32) (3 : Int32)) ?_
  obtain ⟨_, T1, L1, X1, hQ1, st1⟩ := ocallS X0 hx hZ zm2 hown (ww hw 33 rfl) (ww hw 34 rfl) (by decide) (ww hw 36 rfl) (ww hw 35 rfl) e0 (rm6_7 l Z a0 hw []  h0 n0 Z0 ) (st := [.null, (.int 3), (.int 1)]) rfl 0 rfl (by decide) (pc := 3) (Ls := (lc12 1 3)) hml rfl (lenOf pd_2 rfl) d5_3 hby
  obtain ⟨rfl, N1q, e1⟩ := hQ1
  have N2 := Fr.app N0 N1q
  refine own_go (U' := T1.setTop (mkF m 6 (lc12 1 3) [(.int 1)])) (fun t k => oiloadN X0 hx hby d5_0 rfl (oiloadN X0 hx hby d5_1 rfl (onull X0 hx hby d5_2 (st1 _ k)))) ?_
  obtain ⟨fs, hr, hrun, hended, hW, hsame⟩ := X1.leave (v := some (.int 1)) (fun h => by rw [Bd.returns] at h; cases h)
  refine own_out ⟨_, _, ?_, hrun, hended, _, _, rfl, ?_, ⟨_, rfl⟩, hW, hsame.mono (by decide) (by decide)⟩
  · exact retI X1 hx Bd.returns (hb hby d5_6) hr
  · show Q5_8 Z  h0 n0 _ T1.heap _
    rw [e1]
    exact ⟨rfl, N2, rfl⟩
def Q7_9 (Z : State) (a1 : Addr) (a6 : Addr) (a9 : Addr) (kc10 : ClassId) (p14 : Int32) (p15 : Int32) (p16 : Int32) (kc17 : ClassId) (h0 : Heap) (n0 : Nat) (v : Option Value) (h : Heap) (L : List Loc) : Prop := v = some (.int p15) ∧ Fr n0 L ∧ h = h0
set_option maxRecDepth 65536 in
set_option maxHeartbeats 40000000 in
theorem rm7_9 (l : Launch) (Z : State) (a0 : Array Value) (hw : ∀ d ∈ tables_1, d.before a0 Z = true) (ws : List Jvm.Cond) (a1 : Addr) (a6 : Addr) (a9 : Addr) (kc10 : ClassId) (p14 : Int32) (p15 : Int32) (p16 : Int32) (kc17 : ClassId) (h0 : Heap) (n0 : Nat) (Z0 : n0 ≤ h0.size) (F2 : Fld Z h0 a1 zs0 "size" "I" (.int 3)) (F7 : Fld Z h0 a1 zs0 "blocks" "[[I" (.ref a6)) (F11 : Arv Z h0 a6 kc10 (.array .int) (16 : Int32) [(.ref a9)] .null) (F18 : Arv Z h0 a9 kc17 .int (16 : Int32) [(.int p14), (.int p15), (.int p16)] (.int (0 : Int32))) :
    MetFree l zm4 (head1 (Jvm.Cond.code zm4 prog_21_method_4_code 2 (some .int) :: ws) ({ frames := 2, cells := 0, slots := 0, locals := 27 } : Room)) (fun a U => a = #[(.ref a1), (.int 1)] ∧ Z.Warmed39 U.vm ∧ U.heap = h0) (fun _ _ _ _ _ => True) (fun _ U o U' => ∃ v L, o = .returned v ∧ Q7_9 Z a1 a6 a9 kc10 p14 p15 p16 kc17 h0 n0 v U'.heap L ∧ FrameEnd U o U' L ({ frames := 2, cells := 0, slots := 0, locals := 27 } : Room).cells ({ frames := 2, cells := 0, slots := 0, locals := 27 } : Room).slots) := by
  refine MetFree.of_bodySF (plainFor_of_name pn_com_example_stratafold_stratafold_fhir_IntBlocks) hisR ?_
  intro p e s m args below meth c s₁ Bd hml0 hP hK
  obtain ⟨rfl, hZ, hh⟩ := hP
  have hx := Bd.exec
  have hby := Bd.bytes
  have hml : c.maxLocals = 2 := hml0
  have hown : s.vm.findClass zs0 = some m.cls := findClass_of_methodNamed Bd.named
  have hnm := (name_of_methodNamed Bd.named Bd.method).1
  have X0 : Stand p l e ({ frames := 2, cells := 0, slots := 0, locals := 27 } : Room) s m #[(.ref a1), (.int 1)] below meth c s₁ [] 0 0 := Stand.of_body Bd
  have e0 : s₁.heap = h0 := by rw [← hh, Bd.state]; rfl
  have N0 := Fr.nil n0
  refine own_pre (g' := mkF m 0 (lc11 a1 1) []) (ef_4 m a1 (1 : Int32)) ?_
  obtain ⟨T3, X3, e3, st3⟩ := getF X0 hx hZ hown (host := "") (Or.inl (ww hw 18 rfl)) Via.refl e0 F2 (g := (mkF m 2 (lc11 a1 1) [(.ref a1), (.int 1)])) rfl rfl (hb hby d7_2)
  obtain ⟨_, T4, L4, X4, hQ4, st4⟩ := ocallS X3 hx hZ zm3 hown (ww hw 29 rfl) (ww hw 30 rfl) (by decide) (ww hw 32 rfl) (ww hw 31 rfl) e3 (rm5_8 l Z a0 hw []  h0 n0 Z0 ) (st := [(.int 3), (.int 1)]) rfl 0 rfl (by decide) (pc := 5) (Ls := (lc11 a1 1)) hml rfl (lenOf pd_3 rfl) d7_5 hby
  obtain ⟨rfl, N4q, e4⟩ := hQ4
  have N5 := Fr.app N0 N4q
  obtain ⟨T8, X8, e8, st8⟩ := getF X4 hx hZ hown (host := "") (Or.inl (ww hw 11 rfl)) Via.refl e4 F7 (g := (mkF m 10 (lc11 a1 1) [(.ref a1)])) rfl rfl (hb hby d7_10)
  obtain ⟨cl12, Ar12, q12, S12, N12, H12, G12⟩ := id F11
  have hin13 : ¬ ((0 : Int32) < 0 ∨ cl12.slots.size ≤ ((0 : Int32)).toNatClampNeg) := inb_of S12 ⟨by decide, by decide⟩
  have hat13 : cl12.slots[((0 : Int32)).toNatClampNeg]? = some (.ref a9) := Has.at H12 hin13 rfl
  obtain ⟨cl19, Ar19, q19, S19, N19, H19, G19⟩ := id F18
  have hin20 : ¬ ((1 : Int32) < 0 ∨ cl19.slots.size ≤ ((1 : Int32)).toNatClampNeg) := inb_of S19 ⟨by decide, by decide⟩
  have hat20 : cl19.slots[((1 : Int32)).toNatClampNeg]? = some (.int p15) := Has.at H19 hin20 rfl
  refine own_go (U' := T8.setTop (mkF m 24 (lc11 a1 1) [(.int p15)])) (fun t k => oiloadN X0 hx hby d7_0 rfl (oaloadN X0 hx hby d7_1 rfl rfl (st3 _ (st4 _ (opop X4 hx hby d7_8 rfl (oaloadN X4 hx hby d7_9 rfl rfl (st8 _ (oiloadN X8 hx hby d7_13 rfl (obipush X8 hx hby d7_14 (oiushr X8 hx hby d7_16 (X8.aaload hx (j := (0 : Int32)) (v := (.ref a9)) (by rw [e8]; exact Ar12.1) (State.isArrayOf_alike hZ.alike Ar12.2.1) rfl Ar12.2.2 hin13 hat13 (g := (mkF m 17 (lc11 a1 1) [(.int 0), (.ref a6)])) rfl rfl (hb hby d7_17) _ (oiloadN X8 hx hby d7_18 rfl (osipush X8 hx hby d7_19 (oiand X8 hx hby d7_22 (X8.iaload hx (j := (1 : Int32)) (v := (.int p15)) (by rw [e8]; exact Ar19.1) (State.isArrayOf_alike hZ.alike Ar19.2.1) Ar19.2.2 hin20 hat20 (g := (mkF m 23 (lc11 a1 1) [(.int 1), (.ref a9)])) rfl rfl (hb hby d7_23) _ k))))))))))))))) ?_
  obtain ⟨fs, hr, hrun, hended, hW, hsame⟩ := X8.leave (v := some (.int p15)) (fun h => by rw [Bd.returns] at h; cases h)
  refine own_out ⟨_, _, ?_, hrun, hended, _, _, rfl, ?_, ⟨_, rfl⟩, hW, hsame.mono (by decide) (by decide)⟩
  · exact retI X8 hx Bd.returns (hb hby d7_24) hr
  · show Q7_9 Z a1 a6 a9 kc10 p14 p15 p16 kc17 h0 n0 _ T8.heap _
    rw [e8]
    exact ⟨rfl, N5, rfl⟩
def Q6_10 (Z : State)  (h0 : Heap) (n0 : Nat) (v : Option Value) (h : Heap) (L : List Loc) : Prop := v = some (.int 2) ∧ Fr n0 L ∧ h = h0
set_option maxRecDepth 65536 in
set_option maxHeartbeats 40000000 in
theorem rm6_10 (l : Launch) (Z : State) (a0 : Array Value) (hw : ∀ d ∈ tables_1, d.before a0 Z = true) (ws : List Jvm.Cond)  (h0 : Heap) (n0 : Nat) (Z0 : n0 ≤ h0.size) :
    MetFree l zm2 (head1 (Jvm.Cond.code zm2 jdk_41_method_11_code 3 (some .int) :: ws) ({ frames := 0, cells := 0, slots := 0, locals := 0 } : Room)) (fun a U => a = #[(.int 2), (.int 3), .null] ∧ Z.Warmed39 U.vm ∧ U.heap = h0) (fun _ _ _ _ _ => True) (fun _ U o U' => ∃ v L, o = .returned v ∧ Q6_10 Z  h0 n0 v U'.heap L ∧ FrameEnd U o U' L ({ frames := 0, cells := 0, slots := 0, locals := 0 } : Room).cells ({ frames := 0, cells := 0, slots := 0, locals := 0 } : Room).slots) := by
  refine MetFree.of_bodySF (plainFor_of_name pn_jdk_internal_util_Preconditions) hisR ?_
  intro p e s m args below meth c s₁ Bd hml0 hP hK
  obtain ⟨rfl, hZ, hh⟩ := hP
  have hx := Bd.exec
  have hby := Bd.bytes
  have hml : c.maxLocals = 3 := hml0
  have hown : s.vm.findClass zs1 = some m.cls := findClass_of_methodNamed Bd.named
  have hnm := (name_of_methodNamed Bd.named Bd.method).1
  have X0 : Stand p l e ({ frames := 0, cells := 0, slots := 0, locals := 0 } : Room) s m #[(.int 2), (.int 3), .null] below meth c s₁ [] 0 0 := Stand.of_body Bd
  have e0 : s₁.heap = h0 := by rw [← hh, Bd.state]; rfl
  have N0 := Fr.nil n0
  refine own_pre (g' := mkF m 0 (lc13 2 3) []) (ef_2 m (2 : Int32) (3 : Int32)) ?_
  refine own_go (U' := s₁.setTop (mkF m 1 (lc13 2 3) [(.int 2)])) (fun t k => oiloadN X0 hx hby d6_0 rfl k) ?_
  refine own_go (U' := s₁.setTop (mkF m 6 (lc13 2 3) [(.int 3), (.int 2)])) (fun t k => oifN X0 hx hby d6_1 (by decide) (oiloadN X0 hx hby d6_4 rfl (oiloadN X0 hx hby d6_5 rfl k))) ?_
  refine own_go (U' := s₁.setTop (mkF m 17 (lc13 2 3) [(.int 2)])) (fun t k => oicY (pc := 6) X0 hx hby d6_6 16 (by decide) (by decide) (oiloadN X0 hx hby d6_16 rfl k)) ?_
  obtain ⟨fs, hr, hrun, hended, hW, hsame⟩ := X0.leave (v := some (.int 2)) (fun h => by rw [Bd.returns] at h; cases h)
  refine own_out ⟨_, _, ?_, hrun, hended, _, _, rfl, ?_, ⟨_, rfl⟩, hW, hsame.mono (by decide) (by decide)⟩
  · exact retI X0 hx Bd.returns (hb hby d6_17) hr
  · show Q6_10 Z  h0 n0 _ s₁.heap _
    rw [e0]
    exact ⟨rfl, N0, rfl⟩
def Q5_11 (Z : State)  (h0 : Heap) (n0 : Nat) (v : Option Value) (h : Heap) (L : List Loc) : Prop := v = some (.int 2) ∧ Fr n0 L ∧ h = h0
set_option maxRecDepth 65536 in
set_option maxHeartbeats 40000000 in
theorem rm5_11 (l : Launch) (Z : State) (a0 : Array Value) (hw : ∀ d ∈ tables_1, d.before a0 Z = true) (ws : List Jvm.Cond)  (h0 : Heap) (n0 : Nat) (Z0 : n0 ≤ h0.size) :
    MetFree l zm3 (head1 (Jvm.Cond.code zm3 jdk_31_method_17_code 2 (some .int) :: ws) ({ frames := 1, cells := 0, slots := 0, locals := 14 } : Room)) (fun a U => a = #[(.int 2), (.int 3)] ∧ Z.Warmed39 U.vm ∧ U.heap = h0) (fun _ _ _ _ _ => True) (fun _ U o U' => ∃ v L, o = .returned v ∧ Q5_11 Z  h0 n0 v U'.heap L ∧ FrameEnd U o U' L ({ frames := 1, cells := 0, slots := 0, locals := 14 } : Room).cells ({ frames := 1, cells := 0, slots := 0, locals := 14 } : Room).slots) := by
  refine MetFree.of_bodySF (plainFor_of_name pn_java_util_Objects) hisR ?_
  intro p e s m args below meth c s₁ Bd hml0 hP hK
  obtain ⟨rfl, hZ, hh⟩ := hP
  have hx := Bd.exec
  have hby := Bd.bytes
  have hml : c.maxLocals = 2 := hml0
  have hown : s.vm.findClass zs3 = some m.cls := findClass_of_methodNamed Bd.named
  have hnm := (name_of_methodNamed Bd.named Bd.method).1
  have X0 : Stand p l e ({ frames := 1, cells := 0, slots := 0, locals := 14 } : Room) s m #[(.int 2), (.int 3)] below meth c s₁ [] 0 0 := Stand.of_body Bd
  have e0 : s₁.heap = h0 := by rw [← hh, Bd.state]; rfl
  have N0 := Fr.nil n0
  refine own_pre (g' := mkF m 0 (lc12 2 3) []) (ef_3 m (2 : Int32) (3 : Int32)) ?_
  obtain ⟨_, T1, L1, X1, hQ1, st1⟩ := ocallS X0 hx hZ zm2 hown (ww hw 33 rfl) (ww hw 34 rfl) (by decide) (ww hw 36 rfl) (ww hw 35 rfl) e0 (rm6_10 l Z a0 hw []  h0 n0 Z0 ) (st := [.null, (.int 3), (.int 2)]) rfl 0 rfl (by decide) (pc := 3) (Ls := (lc12 2 3)) hml rfl (lenOf pd_2 rfl) d5_3 hby
  obtain ⟨rfl, N1q, e1⟩ := hQ1
  have N2 := Fr.app N0 N1q
  refine own_go (U' := T1.setTop (mkF m 6 (lc12 2 3) [(.int 2)])) (fun t k => oiloadN X0 hx hby d5_0 rfl (oiloadN X0 hx hby d5_1 rfl (onull X0 hx hby d5_2 (st1 _ k)))) ?_
  obtain ⟨fs, hr, hrun, hended, hW, hsame⟩ := X1.leave (v := some (.int 2)) (fun h => by rw [Bd.returns] at h; cases h)
  refine own_out ⟨_, _, ?_, hrun, hended, _, _, rfl, ?_, ⟨_, rfl⟩, hW, hsame.mono (by decide) (by decide)⟩
  · exact retI X1 hx Bd.returns (hb hby d5_6) hr
  · show Q5_11 Z  h0 n0 _ T1.heap _
    rw [e1]
    exact ⟨rfl, N2, rfl⟩
def Q7_12 (Z : State) (a1 : Addr) (a6 : Addr) (a9 : Addr) (kc10 : ClassId) (p14 : Int32) (p15 : Int32) (p16 : Int32) (kc17 : ClassId) (h0 : Heap) (n0 : Nat) (v : Option Value) (h : Heap) (L : List Loc) : Prop := v = some (.int p16) ∧ Fr n0 L ∧ h = h0
set_option maxRecDepth 65536 in
set_option maxHeartbeats 40000000 in
theorem rm7_12 (l : Launch) (Z : State) (a0 : Array Value) (hw : ∀ d ∈ tables_1, d.before a0 Z = true) (ws : List Jvm.Cond) (a1 : Addr) (a6 : Addr) (a9 : Addr) (kc10 : ClassId) (p14 : Int32) (p15 : Int32) (p16 : Int32) (kc17 : ClassId) (h0 : Heap) (n0 : Nat) (Z0 : n0 ≤ h0.size) (F2 : Fld Z h0 a1 zs0 "size" "I" (.int 3)) (F7 : Fld Z h0 a1 zs0 "blocks" "[[I" (.ref a6)) (F11 : Arv Z h0 a6 kc10 (.array .int) (16 : Int32) [(.ref a9)] .null) (F18 : Arv Z h0 a9 kc17 .int (16 : Int32) [(.int p14), (.int p15), (.int p16)] (.int (0 : Int32))) :
    MetFree l zm4 (head1 (Jvm.Cond.code zm4 prog_21_method_4_code 2 (some .int) :: ws) ({ frames := 2, cells := 0, slots := 0, locals := 27 } : Room)) (fun a U => a = #[(.ref a1), (.int 2)] ∧ Z.Warmed39 U.vm ∧ U.heap = h0) (fun _ _ _ _ _ => True) (fun _ U o U' => ∃ v L, o = .returned v ∧ Q7_12 Z a1 a6 a9 kc10 p14 p15 p16 kc17 h0 n0 v U'.heap L ∧ FrameEnd U o U' L ({ frames := 2, cells := 0, slots := 0, locals := 27 } : Room).cells ({ frames := 2, cells := 0, slots := 0, locals := 27 } : Room).slots) := by
  refine MetFree.of_bodySF (plainFor_of_name pn_com_example_stratafold_stratafold_fhir_IntBlocks) hisR ?_
  intro p e s m args below meth c s₁ Bd hml0 hP hK
  obtain ⟨rfl, hZ, hh⟩ := hP
  have hx := Bd.exec
  have hby := Bd.bytes
  have hml : c.maxLocals = 2 := hml0
  have hown : s.vm.findClass zs0 = some m.cls := findClass_of_methodNamed Bd.named
  have hnm := (name_of_methodNamed Bd.named Bd.method).1
  have X0 : Stand p l e ({ frames := 2, cells := 0, slots := 0, locals := 27 } : Room) s m #[(.ref a1), (.int 2)] below meth c s₁ [] 0 0 := Stand.of_body Bd
  have e0 : s₁.heap = h0 := by rw [← hh, Bd.state]; rfl
  have N0 := Fr.nil n0
  refine own_pre (g' := mkF m 0 (lc11 a1 2) []) (ef_4 m a1 (2 : Int32)) ?_
  obtain ⟨T3, X3, e3, st3⟩ := getF X0 hx hZ hown (host := "") (Or.inl (ww hw 18 rfl)) Via.refl e0 F2 (g := (mkF m 2 (lc11 a1 2) [(.ref a1), (.int 2)])) rfl rfl (hb hby d7_2)
  obtain ⟨_, T4, L4, X4, hQ4, st4⟩ := ocallS X3 hx hZ zm3 hown (ww hw 29 rfl) (ww hw 30 rfl) (by decide) (ww hw 32 rfl) (ww hw 31 rfl) e3 (rm5_11 l Z a0 hw []  h0 n0 Z0 ) (st := [(.int 3), (.int 2)]) rfl 0 rfl (by decide) (pc := 5) (Ls := (lc11 a1 2)) hml rfl (lenOf pd_3 rfl) d7_5 hby
  obtain ⟨rfl, N4q, e4⟩ := hQ4
  have N5 := Fr.app N0 N4q
  obtain ⟨T8, X8, e8, st8⟩ := getF X4 hx hZ hown (host := "") (Or.inl (ww hw 11 rfl)) Via.refl e4 F7 (g := (mkF m 10 (lc11 a1 2) [(.ref a1)])) rfl rfl (hb hby d7_10)
  obtain ⟨cl12, Ar12, q12, S12, N12, H12, G12⟩ := id F11
  have hin13 : ¬ ((0 : Int32) < 0 ∨ cl12.slots.size ≤ ((0 : Int32)).toNatClampNeg) := inb_of S12 ⟨by decide, by decide⟩
  have hat13 : cl12.slots[((0 : Int32)).toNatClampNeg]? = some (.ref a9) := Has.at H12 hin13 rfl
  obtain ⟨cl19, Ar19, q19, S19, N19, H19, G19⟩ := id F18
  have hin20 : ¬ ((2 : Int32) < 0 ∨ cl19.slots.size ≤ ((2 : Int32)).toNatClampNeg) := inb_of S19 ⟨by decide, by decide⟩
  have hat20 : cl19.slots[((2 : Int32)).toNatClampNeg]? = some (.int p16) := Has.at H19 hin20 rfl
  refine own_go (U' := T8.setTop (mkF m 24 (lc11 a1 2) [(.int p16)])) (fun t k => oiloadN X0 hx hby d7_0 rfl (oaloadN X0 hx hby d7_1 rfl rfl (st3 _ (st4 _ (opop X4 hx hby d7_8 rfl (oaloadN X4 hx hby d7_9 rfl rfl (st8 _ (oiloadN X8 hx hby d7_13 rfl (obipush X8 hx hby d7_14 (oiushr X8 hx hby d7_16 (X8.aaload hx (j := (0 : Int32)) (v := (.ref a9)) (by rw [e8]; exact Ar12.1) (State.isArrayOf_alike hZ.alike Ar12.2.1) rfl Ar12.2.2 hin13 hat13 (g := (mkF m 17 (lc11 a1 2) [(.int 0), (.ref a6)])) rfl rfl (hb hby d7_17) _ (oiloadN X8 hx hby d7_18 rfl (osipush X8 hx hby d7_19 (oiand X8 hx hby d7_22 (X8.iaload hx (j := (2 : Int32)) (v := (.int p16)) (by rw [e8]; exact Ar19.1) (State.isArrayOf_alike hZ.alike Ar19.2.1) Ar19.2.2 hin20 hat20 (g := (mkF m 23 (lc11 a1 2) [(.int 2), (.ref a9)])) rfl rfl (hb hby d7_23) _ k))))))))))))))) ?_
  obtain ⟨fs, hr, hrun, hended, hW, hsame⟩ := X8.leave (v := some (.int p16)) (fun h => by rw [Bd.returns] at h; cases h)
  refine own_out ⟨_, _, ?_, hrun, hended, _, _, rfl, ?_, ⟨_, rfl⟩, hW, hsame.mono (by decide) (by decide)⟩
  · exact retI X8 hx Bd.returns (hb hby d7_24) hr
  · show Q7_12 Z a1 a6 a9 kc10 p14 p15 p16 kc17 h0 n0 _ T8.heap _
    rw [e8]
    exact ⟨rfl, N5, rfl⟩
set_option maxRecDepth 65536 in
set_option maxHeartbeats 40000000 in
theorem rm0_13 (l : Launch) (Z : State) (a0 : Array Value) (hw : ∀ d ∈ tables_1, d.before a0 Z = true) (ws : List Jvm.Cond) (p1 : Int32) (p2 : Int32) (p3 : Int32) (p4 : Int32) (p5 : Int32) (p6 : Int32) (h0 : Heap) (n0 : Nat) (Z0 : n0 ≤ h0.size) (hv50 : ((p4 &&& (2147483647 : Int32)) % (3 : Int32)) = (0 : Int32)) (hv51 : (p6 &&& (1 : Int32)) = (0 : Int32)) :
    MetFree l x (head1 (Jvm.Cond.code x code maxLocals ret :: ws) room_1) (fun a U => a = #[(.int p1), (.int p2), (.int p3), (.int p4), (.int p5), (.int p6)] ∧ Z.Warmed39 U.vm ∧ U.heap = h0) (fun _ _ _ _ _ => True) (fun _ U o U' => ∃ v L, o = .returned v ∧ QLaw n0 v U'.heap L ∧ FrameEnd U o U' L room_1.cells room_1.slots) := by
  refine MetFree.of_bodySF (plainFor_of_name pn_com_example_stratafold_stratafold_fhir_IntBlocksGetPinLaw) hisR ?_
  intro p e s m args below meth c s₁ Bd hml0 hP hK
  obtain ⟨rfl, hZ, hh⟩ := hP
  have hx := Bd.exec
  have hby := Bd.bytes
  have hml : c.maxLocals = 12 := hml0
  have hown : s.vm.findClass zs4 = some m.cls := findClass_of_methodNamed Bd.named
  have hnm := (name_of_methodNamed Bd.named Bd.method).1
  have X0 : Stand p l e room_1 s m #[(.int p1), (.int p2), (.int p3), (.int p4), (.int p5), (.int p6)] below meth c s₁ [] 0 0 := Stand.of_body Bd
  have e0 : s₁.heap = h0 := by rw [← hh, Bd.state]; rfl
  have N0 := Fr.nil n0
  refine own_pre (g' := mkF m 0 (lc0 p1 p2 p3 p4 p5 p6) []) (ef_5 m p1 p2 p3 p4 p5 p6) ?_
  obtain ⟨T7, h7, X7, e7, E7, A7, D7, -, st7⟩ := newO X0 hx hZ hown (ww hw 0 rfl) (ww hw 1 rfl) (ww hw 2 rfl) e0 (g := (mkF m 0 (lc0 p1 p2 p3 p4 p5 p6) [])) rfl (hb hby at_0) (by decide) (by decide)
  obtain ⟨b7, g7⟩ : ∃ z, z = h0.size := ⟨_, rfl⟩
  rw [← g7] at A7 D7 st7
  have f8 : Fld Z h7 b7 zs0 "blocks" "[[I" .null := D7 (Or.inl (ww hw 12 rfl)) (ty := (.array (.array .int))) (by decide)
  have f9 : Fld Z h7 b7 zs0 "size" "I" (.int 0) := D7 (Or.inl (ww hw 19 rfl)) (ty := .int) (by decide)
  have g11 : n0 ≤ b7 := Nat.le_trans Z0 (Nat.le_of_eq g7.symm)
  have Z_1 : n0 ≤ h7.size := Nat.le_trans Z0 E7.1
  obtain ⟨_, T10, L10, X10, hQ10, st10⟩ := ocallI X7 hx hZ zm0 rfl hown (ww hw 3 rfl) (ww hw 4 rfl) (by decide) (ww hw 5 rfl) (ww hw 2 rfl) e7 (rm1_0 l Z a0 hw [] b7 h7 n0 Z_1 f8 f9 A7 g11) (st := [(.ref b7), (.ref b7)]) rfl 1 rfl (by decide) (pc := 4) (Ls := (lc0 p1 p2 p3 p4 p5 p6)) hml rfl (lenOf pd_0 rfl) at_4 hby
  obtain ⟨b12, k13, rfl, N10q, K10, sz14, O15, f16, f17, f18, f19⟩ := hQ10
  have N20 := Fr.app N0 N10q
  have f22 : Exa Z T10.heap b7 zs0 := (A7.keep K10)
  have g23 : n0 ≤ b12 := Nat.le_trans Z_1 sz14
  have ne24 : b7 ≠ b12 := Nat.ne_of_lt (Nat.lt_of_lt_of_le (f8.lt) sz14)
  have Z_2 : n0 ≤ T10.heap.size := Nat.le_trans Z_1 K10.1
  obtain ⟨_, T21, L21, X21, hQ21, st21⟩ := ocallV X10 hx hZ zm1 zm1 hown (ww hw 13 rfl) (ww hw 14 rfl) (notFace_of_selects (args := #[]) (mvT hZ (ww hw 16 rfl))) (ww hw 16 rfl) (ww hw 15 rfl) (by decide) (ww hw 17 rfl) (ww hw 2 rfl) rfl f22 (rm3_1 l Z a0 hw [] b7 p1 b12 k13 T10.heap n0 Z_2 f17 f16 f19 O15 g23 ne24 f22 g11) (st := [(.int p1), (.ref b7)]) rfl 0 rfl (by decide) (pc := 12) (Ls := (lc2 p1 p2 p3 p4 p5 p6 b7)) hml rfl (lenOf pd_1 rfl) at_12 hby
  obtain ⟨b25, k26, rfl, N21q, K21, sz27, f28, f29, f30, f31, f32⟩ := hQ21
  have N33 := Fr.app N20 N21q
  have f35 : Exa Z T21.heap b7 zs0 := (f22.keep K21)
  have g36 : n0 ≤ b25 := Nat.le_trans Z_2 sz27
  have ne37 : b7 ≠ b25 := Nat.ne_of_lt (Nat.lt_of_lt_of_le (Nat.lt_of_lt_of_le (f8.lt) K10.1) sz27)
  have Z_3 : n0 ≤ T21.heap.size := Nat.le_trans Z_2 K21.1
  obtain ⟨_, T34, L34, X34, hQ34, st34⟩ := ocallV X21 hx hZ zm1 zm1 hown (ww hw 13 rfl) (ww hw 14 rfl) (notFace_of_selects (args := #[]) (mvT hZ (ww hw 16 rfl))) (ww hw 16 rfl) (ww hw 15 rfl) (by decide) (ww hw 17 rfl) (ww hw 2 rfl) rfl f35 (rm3_2 l Z a0 hw [] b7 p2 b12 b25 k13 p1 k26 T21.heap n0 Z_3 f29 f30 f28 f32 g36 ne37 f35 g11) (st := [(.int p2), (.ref b7)]) rfl 0 rfl (by decide) (pc := 19) (Ls := (lc2 p1 p2 p3 p4 p5 p6 b7)) hml rfl (lenOf pd_1 rfl) at_19 hby
  obtain ⟨rfl, N34q, K34, f38, f39, f40⟩ := hQ34
  have N41 := Fr.app N33 N34q
  have f43 : Exa Z T34.heap b7 zs0 := (f35.keep K34)
  have ne44 : b12 ≠ b25 := Nat.ne_of_lt (Nat.lt_of_lt_of_le (f18.lt) sz27)
  have f45 : Arv Z T34.heap b12 k13 (.array .int) (16 : Int32) [(.ref b25)] .null := (f28.keep K34 (ninS ne44 (ninS (Ne.symm ne24) nin0)))
  have Z_4 : n0 ≤ T34.heap.size := Nat.le_trans Z_3 K34.1
  obtain ⟨_, T42, L42, X42, hQ42, st42⟩ := ocallV X34 hx hZ zm1 zm1 hown (ww hw 13 rfl) (ww hw 14 rfl) (notFace_of_selects (args := #[]) (mvT hZ (ww hw 16 rfl))) (ww hw 16 rfl) (ww hw 15 rfl) (by decide) (ww hw 17 rfl) (ww hw 2 rfl) rfl f43 (rm3_3 l Z a0 hw [] b7 p3 b12 b25 k13 p1 p2 k26 T34.heap n0 Z_4 f39 f40 f45 f38 g36 ne37 f43 g11) (st := [(.int p3), (.ref b7)]) rfl 0 rfl (by decide) (pc := 26) (Ls := (lc2 p1 p2 p3 p4 p5 p6 b7)) hml rfl (lenOf pd_1 rfl) at_26 hby
  obtain ⟨rfl, N42q, K42, f46, f47, f48⟩ := hQ42
  have N49 := Fr.app N41 N42q
  refine own_go (U' := T42.setTop (mkF m 36 (lc2 p1 p2 p3 p4 p5 p6 b7) [(.int ((p4 &&& (2147483647 : Int32)) % (3 : Int32)))])) (fun t k => st7 _ (odup X7 hx hby at_3 rfl (st10 _ (oastore X10 hx hby at_7 (lc2 p1 p2 p3 p4 p5 p6 b7) rfl rfl (oaload X10 hx hby at_9 rfl rfl (oiloadN X10 hx hby at_11 rfl (st21 _ (opop X21 hx hby at_15 rfl (oaload X21 hx hby at_16 rfl rfl (oiloadN X21 hx hby at_18 rfl (st34 _ (opop X34 hx hby at_22 rfl (oaload X34 hx hby at_23 rfl rfl (oiloadN X34 hx hby at_25 rfl (st42 _ (opop X42 hx hby at_29 rfl (oiloadN X42 hx hby at_30 rfl (X42.ldcInt hx hown (mvT hZ (ww hw 23 rfl)) (g := (mkF m 31 (lc2 p1 p2 p3 p4 p5 p6 b7) [(.int p4)])) rfl (hb hby at_31) _ (oiand X42 hx hby at_33 (oiconst X42 hx hby at_34 (oirem X42 hx hby at_35 (by decide) k))))))))))))))))))))) ?_
  rw [hv50]
  refine own_go (U' := T42.setTop (mkF m 42 (lc6 p1 p2 p3 p4 p5 p6 b7 0) [(.int (p6 &&& (1 : Int32)))])) (fun t k => oistore X42 hx hby at_36 (lc6 p1 p2 p3 p4 p5 p6 b7 0) rfl (oiload X42 hx hby at_38 rfl (oiconst X42 hx hby at_40 (oiand X42 hx hby at_41 k)))) ?_
  rw [hv51]
  refine own_go (U' := T42.setTop (mkF m 54 (lc7 p1 p2 p3 p4 p5 p6 b7 0 0) [(.int 0)])) (fun t k => oifY (pc := 42) X42 hx hby at_42 49 (by decide) (by decide) (oiconst X42 hx hby at_49 (oistore X42 hx hby at_50 (lc7 p1 p2 p3 p4 p5 p6 b7 0 0) rfl (oiload X42 hx hby at_52 rfl k)))) ?_
  refine own_go (U' := T42.setTop (mkF m 68 (lc7 p1 p2 p3 p4 p5 p6 b7 0 0) [(.int 0)])) (fun t k => oifY (pc := 54) X42 hx hby at_54 66 (by decide) (by decide) (oiload X42 hx hby at_66 rfl k)) ?_
  refine own_go (U' := T42.setTop (mkF m 86 (lc8 p1 p2 p3 p4 p5 p6 b7 0 0 p1) [(.int 0)])) (fun t k => oifY (pc := 68) X42 hx hby at_68 81 (by decide) (by decide) (oiloadN X42 hx hby at_81 rfl (oistore X42 hx hby at_82 (lc8 p1 p2 p3 p4 p5 p6 b7 0 0 p1) rfl (oiload X42 hx hby at_84 rfl k)))) ?_
  refine own_go (U' := T42.setTop (mkF m 105 (lc9 p1 p2 p3 p4 p5 p6 b7 0 0 p1 p2) [(.int 0)])) (fun t k => oifY (pc := 86) X42 hx hby at_86 100 (by decide) (by decide) (oiloadN X42 hx hby at_100 rfl (oistore X42 hx hby at_101 (lc9 p1 p2 p3 p4 p5 p6 b7 0 0 p1 p2) rfl (oiload X42 hx hby at_103 rfl k)))) ?_
  have f53 : Exa Z T42.heap b7 zs0 := (f43.keep K42)
  have f54 : Arv Z T42.heap b12 k13 (.array .int) (16 : Int32) [(.ref b25)] .null := (f45.keep K42 (ninS ne44 (ninS (Ne.symm ne24) nin0)))
  have Z_5 : n0 ≤ T42.heap.size := Nat.le_trans Z_4 K42.1
  obtain ⟨_, T52, L52, X52, hQ52, st52⟩ := ocallV X42 hx hZ zm4 zm4 hown (ww hw 37 rfl) (ww hw 38 rfl) (notFace_of_selects (args := #[]) (mvT hZ (ww hw 40 rfl))) (ww hw 40 rfl) (ww hw 39 rfl) (by decide) (ww hw 41 rfl) (ww hw 2 rfl) rfl f53 (rm7_6 l Z a0 hw [] b7 b12 b25 k13 p1 p2 p3 k26 T42.heap n0 Z_5 f47 f48 f54 f46) (st := [(.int 0), (.ref b7)]) rfl 0 rfl (by decide) (pc := 125) (Ls := (lc10 p1 p2 p3 p4 p5 p6 b7 0 0 p1 p2 p3)) hml rfl (lenOf pd_1 rfl) at_125 hby
  obtain ⟨rfl, N52q, e52⟩ := hQ52
  have N55 := Fr.app N49 N52q
  refine own_go (U' := T52.setTop (mkF m 130 (lc10 p1 p2 p3 p4 p5 p6 b7 0 0 p1 p2 p3) [(.int p1), (.int p1)])) (fun t k => oifY (pc := 105) X42 hx hby at_105 119 (by decide) (by decide) (oiloadN X42 hx hby at_119 rfl (oistore X42 hx hby at_120 (lc10 p1 p2 p3 p4 p5 p6 b7 0 0 p1 p2 p3) rfl (oaload X42 hx hby at_122 rfl rfl (oiconst X42 hx hby at_124 (st52 _ (oiload X52 hx hby at_128 rfl k))))))) ?_
  obtain ⟨_, T56, L56, X56, hQ56, st56⟩ := ocallV X52 hx hZ zm4 zm4 hown (ww hw 37 rfl) (ww hw 38 rfl) (notFace_of_selects (args := #[]) (mvT hZ (ww hw 40 rfl))) (ww hw 40 rfl) (ww hw 39 rfl) (by decide) (ww hw 41 rfl) (ww hw 2 rfl) e52 f53 (rm7_9 l Z a0 hw [] b7 b12 b25 k13 p1 p2 p3 k26 T42.heap n0 Z_5 f47 f48 f54 f46) (st := [(.int 1), (.ref b7)]) rfl 0 rfl (by decide) (pc := 136) (Ls := (lc10 p1 p2 p3 p4 p5 p6 b7 0 0 p1 p2 p3)) hml rfl (lenOf pd_1 rfl) at_136 hby
  obtain ⟨rfl, N56q, e56⟩ := hQ56
  have N57 := Fr.app N55 N56q
  refine own_go (U' := T56.setTop (mkF m 141 (lc10 p1 p2 p3 p4 p5 p6 b7 0 0 p1 p2 p3) [(.int p2), (.int p2)])) (fun t k => oicN X52 hx hby at_130 (teq (rfl : p1 = p1)).2 (oaload X52 hx hby at_133 rfl rfl (oiconst X52 hx hby at_135 (st56 _ (oiload X56 hx hby at_139 rfl k))))) ?_
  obtain ⟨_, T58, L58, X58, hQ58, st58⟩ := ocallV X56 hx hZ zm4 zm4 hown (ww hw 37 rfl) (ww hw 38 rfl) (notFace_of_selects (args := #[]) (mvT hZ (ww hw 40 rfl))) (ww hw 40 rfl) (ww hw 39 rfl) (by decide) (ww hw 41 rfl) (ww hw 2 rfl) e56 f53 (rm7_12 l Z a0 hw [] b7 b12 b25 k13 p1 p2 p3 k26 T42.heap n0 Z_5 f47 f48 f54 f46) (st := [(.int 2), (.ref b7)]) rfl 0 rfl (by decide) (pc := 147) (Ls := (lc10 p1 p2 p3 p4 p5 p6 b7 0 0 p1 p2 p3)) hml rfl (lenOf pd_1 rfl) at_147 hby
  obtain ⟨rfl, N58q, e58⟩ := hQ58
  have N59 := Fr.app N57 N58q
  refine own_go (U' := T58.setTop (mkF m 152 (lc10 p1 p2 p3 p4 p5 p6 b7 0 0 p1 p2 p3) [(.int p3), (.int p3)])) (fun t k => oicN X56 hx hby at_141 (teq (rfl : p2 = p2)).2 (oaload X56 hx hby at_144 rfl rfl (oiconst X56 hx hby at_146 (st58 _ (oiload X58 hx hby at_150 rfl k))))) ?_
  refine own_go (U' := T58.setTop (mkF m 160 (lc10 p1 p2 p3 p4 p5 p6 b7 0 0 p1 p2 p3) [(.int 1)])) (fun t k => oicN X58 hx hby at_152 (teq (rfl : p3 = p3)).2 (oiconst X58 hx hby at_155 (ogoto (pc := 156) X58 hx hby at_156 160 (by decide) k))) ?_
  obtain ⟨fs, hr, hrun, hended, hW, hsame⟩ := X58.leave (v := some (.int 1)) (fun h => by rw [Bd.returns] at h; cases h)
  refine own_out ⟨_, _, ?_, hrun, hended, _, _, rfl, ?_, ⟨_, rfl⟩, hW, hsame.mono (by decide) (by decide)⟩
  · exact retN X58 hx (t := .boolean) Bd.returns (by simp) (hb hby at_160) hr
  · exact ⟨rfl, N59⟩
def Q4_14 (Z : State) (a1 : Addr) (p2 : Int32) (a7 : Addr) (a10 : Addr) (kc11 : ClassId) (p15 : Int32) (p16 : Int32) (p17 : Int32) (kc18 : ClassId) (h0 : Heap) (n0 : Nat) (v : Option Value) (h : Heap) (L : List Loc) : Prop := v = none ∧ Fr n0 L ∧ Keep h0 h [a10] ∧ Arv Z h a10 kc18 .int (16 : Int32) [(.int p2), (.int p16), (.int p17)] (.int (0 : Int32))
set_option maxRecDepth 65536 in
set_option maxHeartbeats 40000000 in
theorem rm4_14 (l : Launch) (Z : State) (a0 : Array Value) (hw : ∀ d ∈ tables_1, d.before a0 Z = true) (ws : List Jvm.Cond) (a1 : Addr) (p2 : Int32) (a7 : Addr) (a10 : Addr) (kc11 : ClassId) (p15 : Int32) (p16 : Int32) (p17 : Int32) (kc18 : ClassId) (h0 : Heap) (n0 : Nat) (Z0 : n0 ≤ h0.size) (F3 : Fld Z h0 a1 zs0 "size" "I" (.int 3)) (F8 : Fld Z h0 a1 zs0 "blocks" "[[I" (.ref a7)) (F12 : Arv Z h0 a7 kc11 (.array .int) (16 : Int32) [(.ref a10)] .null) (F19 : Arv Z h0 a10 kc18 .int (16 : Int32) [(.int p15), (.int p16), (.int p17)] (.int (0 : Int32))) (g22 : n0 ≤ a10) :
    MetFree l zm5 (head1 (Jvm.Cond.code zm5 prog_21_method_5_code 3 none :: ws) ({ frames := 2, cells := 0, slots := 0, locals := 27 } : Room)) (fun a U => a = #[(.ref a1), (.int 0), (.int p2)] ∧ Z.Warmed39 U.vm ∧ U.heap = h0) (fun _ _ _ _ _ => True) (fun _ U o U' => ∃ v L, o = .returned v ∧ Q4_14 Z a1 p2 a7 a10 kc11 p15 p16 p17 kc18 h0 n0 v U'.heap L ∧ FrameEnd U o U' L ({ frames := 2, cells := 0, slots := 0, locals := 27 } : Room).cells ({ frames := 2, cells := 0, slots := 0, locals := 27 } : Room).slots) := by
  refine MetFree.of_bodySF (plainFor_of_name pn_com_example_stratafold_stratafold_fhir_IntBlocks) hisR ?_
  intro p e s m args below meth c s₁ Bd hml0 hP hK
  obtain ⟨rfl, hZ, hh⟩ := hP
  have hx := Bd.exec
  have hby := Bd.bytes
  have hml : c.maxLocals = 3 := hml0
  have hown : s.vm.findClass zs0 = some m.cls := findClass_of_methodNamed Bd.named
  have hnm := (name_of_methodNamed Bd.named Bd.method).1
  have X0 : Stand p l e ({ frames := 2, cells := 0, slots := 0, locals := 27 } : Room) s m #[(.ref a1), (.int 0), (.int p2)] below meth c s₁ [] 0 0 := Stand.of_body Bd
  have e0 : s₁.heap = h0 := by rw [← hh, Bd.state]; rfl
  have N0 := Fr.nil n0
  refine own_pre (g' := mkF m 0 (lc14 a1 0 p2) []) (ef_6 m a1 (0 : Int32) p2) ?_
  obtain ⟨T4, X4, e4, st4⟩ := getF X0 hx hZ hown (host := "") (Or.inl (ww hw 18 rfl)) Via.refl e0 F3 (g := (mkF m 2 (lc14 a1 0 p2) [(.ref a1), (.int 0)])) rfl rfl (hb hby d4_2)
  obtain ⟨_, T5, L5, X5, hQ5, st5⟩ := ocallS X4 hx hZ zm3 hown (ww hw 29 rfl) (ww hw 30 rfl) (by decide) (ww hw 32 rfl) (ww hw 31 rfl) e4 (rm5_5 l Z a0 hw []  h0 n0 Z0 ) (st := [(.int 3), (.int 0)]) rfl 0 rfl (by decide) (pc := 5) (Ls := (lc14 a1 0 p2)) hml rfl (lenOf pd_3 rfl) d4_5 hby
  obtain ⟨rfl, N5q, e5⟩ := hQ5
  have N6 := Fr.app N0 N5q
  obtain ⟨T9, X9, e9, st9⟩ := getF X5 hx hZ hown (host := "") (Or.inl (ww hw 11 rfl)) Via.refl e5 F8 (g := (mkF m 10 (lc14 a1 0 p2) [(.ref a1)])) rfl rfl (hb hby d4_10)
  obtain ⟨cl13, Ar13, q13, S13, N13, H13, G13⟩ := id F12
  have hin14 : ¬ ((0 : Int32) < 0 ∨ cl13.slots.size ≤ ((0 : Int32)).toNatClampNeg) := inb_of S13 ⟨by decide, by decide⟩
  have hat14 : cl13.slots[((0 : Int32)).toNatClampNeg]? = some (.ref a10) := Has.at H13 hin14 rfl
  obtain ⟨cl20, Ar20, q20, S20, N20, H20, G20⟩ := id F19
  have hin21 : ¬ ((0 : Int32) < 0 ∨ cl20.slots.size ≤ ((0 : Int32)).toNatClampNeg) := inb_of S20 ⟨by decide, by decide⟩
  obtain ⟨T21, h21, X21, e21, W21, st21⟩ := stI X9 hx hZ e9 Ar20 (j := (0 : Int32)) hin21 (g := (mkF m 24 (lc14 a1 0 p2) [(.int p2), (.int 0), (.ref a10)])) rfl rfl (hb hby d4_24)
  have N23 := Fr.snoc X21 N6 g22
  have f24 : Arv Z h21 a10 kc18 .int (16 : Int32) [(.int p2), (.int p16), (.int p17)] (.int (0 : Int32)) := Arv.set Ar20 q20 S20 N20 H20 G20 (by rfl) W21 0 rfl (Nat.le_of_ble_eq_true rfl)
  refine own_go (U' := T21.setTop (mkF m 25 (lc14 a1 0 p2) [])) (fun t k => oiloadN X0 hx hby d4_0 rfl (oaloadN X0 hx hby d4_1 rfl rfl (st4 _ (st5 _ (opop X5 hx hby d4_8 rfl (oaloadN X5 hx hby d4_9 rfl rfl (st9 _ (oiloadN X9 hx hby d4_13 rfl (obipush X9 hx hby d4_14 (oiushr X9 hx hby d4_16 (X9.aaload hx (j := (0 : Int32)) (v := (.ref a10)) (by rw [e9]; exact Ar13.1) (State.isArrayOf_alike hZ.alike Ar13.2.1) rfl Ar13.2.2 hin14 hat14 (g := (mkF m 17 (lc14 a1 0 p2) [(.int 0), (.ref a7)])) rfl rfl (hb hby d4_17) _ (oiloadN X9 hx hby d4_18 rfl (osipush X9 hx hby d4_19 (oiand X9 hx hby d4_22 (oiloadN X9 hx hby d4_23 rfl (st21 _ k)))))))))))))))) ?_
  obtain ⟨fs, hr, hrun, hended, hW, hsame⟩ := X21.leave (v := none) (fun _ => rfl)
  refine own_out ⟨_, _, ?_, hrun, hended, _, _, rfl, ?_, ⟨_, rfl⟩, hW, hsame.mono (by decide) (by decide)⟩
  · exact X21.returnOut hx Bd.returns (hb hby d4_25) hr
  · show Q4_14 Z a1 p2 a7 a10 kc11 p15 p16 p17 kc18 h0 n0 _ T21.heap _
    rw [e21]
    exact ⟨rfl, N23, ((Keep.refl h0 [a10]).wr W21 (Or.inl (List.mem_of_getElem? (i := 0) rfl))), f24⟩
set_option maxRecDepth 65536 in
set_option maxHeartbeats 40000000 in
theorem rm0_15 (l : Launch) (Z : State) (a0 : Array Value) (hw : ∀ d ∈ tables_1, d.before a0 Z = true) (ws : List Jvm.Cond) (p1 : Int32) (p2 : Int32) (p3 : Int32) (p4 : Int32) (p5 : Int32) (p6 : Int32) (h0 : Heap) (n0 : Nat) (Z0 : n0 ≤ h0.size) (hv50 : ((p4 &&& (2147483647 : Int32)) % (3 : Int32)) = (0 : Int32)) (hv51 : (p6 &&& (1 : Int32)) = (1 : Int32)) :
    MetFree l x (head1 (Jvm.Cond.code x code maxLocals ret :: ws) room_1) (fun a U => a = #[(.int p1), (.int p2), (.int p3), (.int p4), (.int p5), (.int p6)] ∧ Z.Warmed39 U.vm ∧ U.heap = h0) (fun _ _ _ _ _ => True) (fun _ U o U' => ∃ v L, o = .returned v ∧ QLaw n0 v U'.heap L ∧ FrameEnd U o U' L room_1.cells room_1.slots) := by
  refine MetFree.of_bodySF (plainFor_of_name pn_com_example_stratafold_stratafold_fhir_IntBlocksGetPinLaw) hisR ?_
  intro p e s m args below meth c s₁ Bd hml0 hP hK
  obtain ⟨rfl, hZ, hh⟩ := hP
  have hx := Bd.exec
  have hby := Bd.bytes
  have hml : c.maxLocals = 12 := hml0
  have hown : s.vm.findClass zs4 = some m.cls := findClass_of_methodNamed Bd.named
  have hnm := (name_of_methodNamed Bd.named Bd.method).1
  have X0 : Stand p l e room_1 s m #[(.int p1), (.int p2), (.int p3), (.int p4), (.int p5), (.int p6)] below meth c s₁ [] 0 0 := Stand.of_body Bd
  have e0 : s₁.heap = h0 := by rw [← hh, Bd.state]; rfl
  have N0 := Fr.nil n0
  refine own_pre (g' := mkF m 0 (lc0 p1 p2 p3 p4 p5 p6) []) (ef_5 m p1 p2 p3 p4 p5 p6) ?_
  obtain ⟨T7, h7, X7, e7, E7, A7, D7, -, st7⟩ := newO X0 hx hZ hown (ww hw 0 rfl) (ww hw 1 rfl) (ww hw 2 rfl) e0 (g := (mkF m 0 (lc0 p1 p2 p3 p4 p5 p6) [])) rfl (hb hby at_0) (by decide) (by decide)
  obtain ⟨b7, g7⟩ : ∃ z, z = h0.size := ⟨_, rfl⟩
  rw [← g7] at A7 D7 st7
  have f8 : Fld Z h7 b7 zs0 "blocks" "[[I" .null := D7 (Or.inl (ww hw 12 rfl)) (ty := (.array (.array .int))) (by decide)
  have f9 : Fld Z h7 b7 zs0 "size" "I" (.int 0) := D7 (Or.inl (ww hw 19 rfl)) (ty := .int) (by decide)
  have g11 : n0 ≤ b7 := Nat.le_trans Z0 (Nat.le_of_eq g7.symm)
  have Z_1 : n0 ≤ h7.size := Nat.le_trans Z0 E7.1
  obtain ⟨_, T10, L10, X10, hQ10, st10⟩ := ocallI X7 hx hZ zm0 rfl hown (ww hw 3 rfl) (ww hw 4 rfl) (by decide) (ww hw 5 rfl) (ww hw 2 rfl) e7 (rm1_0 l Z a0 hw [] b7 h7 n0 Z_1 f8 f9 A7 g11) (st := [(.ref b7), (.ref b7)]) rfl 1 rfl (by decide) (pc := 4) (Ls := (lc0 p1 p2 p3 p4 p5 p6)) hml rfl (lenOf pd_0 rfl) at_4 hby
  obtain ⟨b12, k13, rfl, N10q, K10, sz14, O15, f16, f17, f18, f19⟩ := hQ10
  have N20 := Fr.app N0 N10q
  have f22 : Exa Z T10.heap b7 zs0 := (A7.keep K10)
  have g23 : n0 ≤ b12 := Nat.le_trans Z_1 sz14
  have ne24 : b7 ≠ b12 := Nat.ne_of_lt (Nat.lt_of_lt_of_le (f8.lt) sz14)
  have Z_2 : n0 ≤ T10.heap.size := Nat.le_trans Z_1 K10.1
  obtain ⟨_, T21, L21, X21, hQ21, st21⟩ := ocallV X10 hx hZ zm1 zm1 hown (ww hw 13 rfl) (ww hw 14 rfl) (notFace_of_selects (args := #[]) (mvT hZ (ww hw 16 rfl))) (ww hw 16 rfl) (ww hw 15 rfl) (by decide) (ww hw 17 rfl) (ww hw 2 rfl) rfl f22 (rm3_1 l Z a0 hw [] b7 p1 b12 k13 T10.heap n0 Z_2 f17 f16 f19 O15 g23 ne24 f22 g11) (st := [(.int p1), (.ref b7)]) rfl 0 rfl (by decide) (pc := 12) (Ls := (lc2 p1 p2 p3 p4 p5 p6 b7)) hml rfl (lenOf pd_1 rfl) at_12 hby
  obtain ⟨b25, k26, rfl, N21q, K21, sz27, f28, f29, f30, f31, f32⟩ := hQ21
  have N33 := Fr.app N20 N21q
  have f35 : Exa Z T21.heap b7 zs0 := (f22.keep K21)
  have g36 : n0 ≤ b25 := Nat.le_trans Z_2 sz27
  have ne37 : b7 ≠ b25 := Nat.ne_of_lt (Nat.lt_of_lt_of_le (Nat.lt_of_lt_of_le (f8.lt) K10.1) sz27)
  have Z_3 : n0 ≤ T21.heap.size := Nat.le_trans Z_2 K21.1
  obtain ⟨_, T34, L34, X34, hQ34, st34⟩ := ocallV X21 hx hZ zm1 zm1 hown (ww hw 13 rfl) (ww hw 14 rfl) (notFace_of_selects (args := #[]) (mvT hZ (ww hw 16 rfl))) (ww hw 16 rfl) (ww hw 15 rfl) (by decide) (ww hw 17 rfl) (ww hw 2 rfl) rfl f35 (rm3_2 l Z a0 hw [] b7 p2 b12 b25 k13 p1 k26 T21.heap n0 Z_3 f29 f30 f28 f32 g36 ne37 f35 g11) (st := [(.int p2), (.ref b7)]) rfl 0 rfl (by decide) (pc := 19) (Ls := (lc2 p1 p2 p3 p4 p5 p6 b7)) hml rfl (lenOf pd_1 rfl) at_19 hby
  obtain ⟨rfl, N34q, K34, f38, f39, f40⟩ := hQ34
  have N41 := Fr.app N33 N34q
  have f43 : Exa Z T34.heap b7 zs0 := (f35.keep K34)
  have ne44 : b12 ≠ b25 := Nat.ne_of_lt (Nat.lt_of_lt_of_le (f18.lt) sz27)
  have f45 : Arv Z T34.heap b12 k13 (.array .int) (16 : Int32) [(.ref b25)] .null := (f28.keep K34 (ninS ne44 (ninS (Ne.symm ne24) nin0)))
  have Z_4 : n0 ≤ T34.heap.size := Nat.le_trans Z_3 K34.1
  obtain ⟨_, T42, L42, X42, hQ42, st42⟩ := ocallV X34 hx hZ zm1 zm1 hown (ww hw 13 rfl) (ww hw 14 rfl) (notFace_of_selects (args := #[]) (mvT hZ (ww hw 16 rfl))) (ww hw 16 rfl) (ww hw 15 rfl) (by decide) (ww hw 17 rfl) (ww hw 2 rfl) rfl f43 (rm3_3 l Z a0 hw [] b7 p3 b12 b25 k13 p1 p2 k26 T34.heap n0 Z_4 f39 f40 f45 f38 g36 ne37 f43 g11) (st := [(.int p3), (.ref b7)]) rfl 0 rfl (by decide) (pc := 26) (Ls := (lc2 p1 p2 p3 p4 p5 p6 b7)) hml rfl (lenOf pd_1 rfl) at_26 hby
  obtain ⟨rfl, N42q, K42, f46, f47, f48⟩ := hQ42
  have N49 := Fr.app N41 N42q
  refine own_go (U' := T42.setTop (mkF m 36 (lc2 p1 p2 p3 p4 p5 p6 b7) [(.int ((p4 &&& (2147483647 : Int32)) % (3 : Int32)))])) (fun t k => st7 _ (odup X7 hx hby at_3 rfl (st10 _ (oastore X10 hx hby at_7 (lc2 p1 p2 p3 p4 p5 p6 b7) rfl rfl (oaload X10 hx hby at_9 rfl rfl (oiloadN X10 hx hby at_11 rfl (st21 _ (opop X21 hx hby at_15 rfl (oaload X21 hx hby at_16 rfl rfl (oiloadN X21 hx hby at_18 rfl (st34 _ (opop X34 hx hby at_22 rfl (oaload X34 hx hby at_23 rfl rfl (oiloadN X34 hx hby at_25 rfl (st42 _ (opop X42 hx hby at_29 rfl (oiloadN X42 hx hby at_30 rfl (X42.ldcInt hx hown (mvT hZ (ww hw 23 rfl)) (g := (mkF m 31 (lc2 p1 p2 p3 p4 p5 p6 b7) [(.int p4)])) rfl (hb hby at_31) _ (oiand X42 hx hby at_33 (oiconst X42 hx hby at_34 (oirem X42 hx hby at_35 (by decide) k))))))))))))))))))))) ?_
  rw [hv50]
  refine own_go (U' := T42.setTop (mkF m 42 (lc6 p1 p2 p3 p4 p5 p6 b7 0) [(.int (p6 &&& (1 : Int32)))])) (fun t k => oistore X42 hx hby at_36 (lc6 p1 p2 p3 p4 p5 p6 b7 0) rfl (oiload X42 hx hby at_38 rfl (oiconst X42 hx hby at_40 (oiand X42 hx hby at_41 k)))) ?_
  rw [hv51]
  refine own_go (U' := T42.setTop (mkF m 54 (lc7 p1 p2 p3 p4 p5 p6 b7 0 1) [(.int 1)])) (fun t k => oifN X42 hx hby at_42 (by decide) (oiconst X42 hx hby at_45 (ogoto (pc := 46) X42 hx hby at_46 50 (by decide) (oistore X42 hx hby at_50 (lc7 p1 p2 p3 p4 p5 p6 b7 0 1) rfl (oiload X42 hx hby at_52 rfl k))))) ?_
  have f53 : Exa Z T42.heap b7 zs0 := (f43.keep K42)
  have f54 : Arv Z T42.heap b12 k13 (.array .int) (16 : Int32) [(.ref b25)] .null := (f45.keep K42 (ninS ne44 (ninS (Ne.symm ne24) nin0)))
  have Z_5 : n0 ≤ T42.heap.size := Nat.le_trans Z_4 K42.1
  obtain ⟨_, T52, L52, X52, hQ52, st52⟩ := ocallV X42 hx hZ zm5 zm5 hown (ww hw 24 rfl) (ww hw 25 rfl) (notFace_of_selects (args := #[]) (mvT hZ (ww hw 27 rfl))) (ww hw 27 rfl) (ww hw 26 rfl) (by decide) (ww hw 28 rfl) (ww hw 2 rfl) rfl f53 (rm4_14 l Z a0 hw [] b7 p5 b12 b25 k13 p1 p2 p3 k26 T42.heap n0 Z_5 f47 f48 f54 f46 g36) (st := [(.int p5), (.int 0), (.ref b7)]) rfl 0 rfl (by decide) (pc := 63) (Ls := (lc7 p1 p2 p3 p4 p5 p6 b7 0 1)) hml rfl (lenOf pd_4 rfl) at_63 hby
  obtain ⟨rfl, N52q, K52, f55⟩ := hQ52
  have N56 := Fr.app N49 N52q
  refine own_go (U' := T52.setTop (mkF m 68 (lc7 p1 p2 p3 p4 p5 p6 b7 0 1) [(.int 1)])) (fun t k => oifN X42 hx hby at_54 (by decide) (oaload X42 hx hby at_57 rfl rfl (oiload X42 hx hby at_59 rfl (oiload X42 hx hby at_61 rfl (st52 _ (oiload X52 hx hby at_66 rfl k)))))) ?_
  refine own_go (U' := T52.setTop (mkF m 73 (lc7 p1 p2 p3 p4 p5 p6 b7 0 1) [(.int 0)])) (fun t k => oifN X52 hx hby at_68 (by decide) (oiload X52 hx hby at_71 rfl k)) ?_
  refine own_go (U' := T52.setTop (mkF m 86 (lc8 p1 p2 p3 p4 p5 p6 b7 0 1 p5) [(.int 1)])) (fun t k => oifN X52 hx hby at_73 (by decide) (oiload X52 hx hby at_76 rfl (ogoto (pc := 78) X52 hx hby at_78 82 (by decide) (oistore X52 hx hby at_82 (lc8 p1 p2 p3 p4 p5 p6 b7 0 1 p5) rfl (oiload X52 hx hby at_84 rfl k))))) ?_
  refine own_go (U' := T52.setTop (mkF m 92 (lc8 p1 p2 p3 p4 p5 p6 b7 0 1 p5) [(.int 1), (.int 0)])) (fun t k => oifN X52 hx hby at_86 (by decide) (oiload X52 hx hby at_89 rfl (oiconst X52 hx hby at_91 k))) ?_
  refine own_go (U' := T52.setTop (mkF m 105 (lc9 p1 p2 p3 p4 p5 p6 b7 0 1 p5 p2) [(.int 1)])) (fun t k => oicY (pc := 92) X52 hx hby at_92 100 (by decide) (by decide) (oiloadN X52 hx hby at_100 rfl (oistore X52 hx hby at_101 (lc9 p1 p2 p3 p4 p5 p6 b7 0 1 p5 p2) rfl (oiload X52 hx hby at_103 rfl k)))) ?_
  refine own_go (U' := T52.setTop (mkF m 111 (lc9 p1 p2 p3 p4 p5 p6 b7 0 1 p5 p2) [(.int 2), (.int 0)])) (fun t k => oifN X52 hx hby at_105 (by decide) (oiload X52 hx hby at_108 rfl (oiconst X52 hx hby at_110 k))) ?_
  have f58 : Exa Z T52.heap b7 zs0 := (f53.keep K52)
  have f59 : Fld Z T52.heap b7 zs0 "size" "I" (.int 3) := (f47.keep K52 (ninS ne37 nin0))
  have f60 : Fld Z T52.heap b7 zs0 "blocks" "[[I" (.ref b12) := (f48.keep K52 (ninS ne37 nin0))
  have f61 : Arv Z T52.heap b12 k13 (.array .int) (16 : Int32) [(.ref b25)] .null := (f54.keep K52 (ninS ne44 nin0))
  have Z_6 : n0 ≤ T52.heap.size := Nat.le_trans Z_5 K52.1
  obtain ⟨_, T57, L57, X57, hQ57, st57⟩ := ocallV X52 hx hZ zm4 zm4 hown (ww hw 37 rfl) (ww hw 38 rfl) (notFace_of_selects (args := #[]) (mvT hZ (ww hw 40 rfl))) (ww hw 40 rfl) (ww hw 39 rfl) (by decide) (ww hw 41 rfl) (ww hw 2 rfl) rfl f58 (rm7_6 l Z a0 hw [] b7 b12 b25 k13 p5 p2 p3 k26 T52.heap n0 Z_6 f59 f60 f61 f55) (st := [(.int 0), (.ref b7)]) rfl 0 rfl (by decide) (pc := 125) (Ls := (lc10 p1 p2 p3 p4 p5 p6 b7 0 1 p5 p2 p3)) hml rfl (lenOf pd_1 rfl) at_125 hby
  obtain ⟨rfl, N57q, e57⟩ := hQ57
  have N62 := Fr.app N56 N57q
  refine own_go (U' := T57.setTop (mkF m 130 (lc10 p1 p2 p3 p4 p5 p6 b7 0 1 p5 p2 p3) [(.int p5), (.int p5)])) (fun t k => oicY (pc := 111) X52 hx hby at_111 119 (by decide) (by decide) (oiloadN X52 hx hby at_119 rfl (oistore X52 hx hby at_120 (lc10 p1 p2 p3 p4 p5 p6 b7 0 1 p5 p2 p3) rfl (oaload X52 hx hby at_122 rfl rfl (oiconst X52 hx hby at_124 (st57 _ (oiload X57 hx hby at_128 rfl k))))))) ?_
  obtain ⟨_, T63, L63, X63, hQ63, st63⟩ := ocallV X57 hx hZ zm4 zm4 hown (ww hw 37 rfl) (ww hw 38 rfl) (notFace_of_selects (args := #[]) (mvT hZ (ww hw 40 rfl))) (ww hw 40 rfl) (ww hw 39 rfl) (by decide) (ww hw 41 rfl) (ww hw 2 rfl) e57 f58 (rm7_9 l Z a0 hw [] b7 b12 b25 k13 p5 p2 p3 k26 T52.heap n0 Z_6 f59 f60 f61 f55) (st := [(.int 1), (.ref b7)]) rfl 0 rfl (by decide) (pc := 136) (Ls := (lc10 p1 p2 p3 p4 p5 p6 b7 0 1 p5 p2 p3)) hml rfl (lenOf pd_1 rfl) at_136 hby
  obtain ⟨rfl, N63q, e63⟩ := hQ63
  have N64 := Fr.app N62 N63q
  refine own_go (U' := T63.setTop (mkF m 141 (lc10 p1 p2 p3 p4 p5 p6 b7 0 1 p5 p2 p3) [(.int p2), (.int p2)])) (fun t k => oicN X57 hx hby at_130 (teq (rfl : p5 = p5)).2 (oaload X57 hx hby at_133 rfl rfl (oiconst X57 hx hby at_135 (st63 _ (oiload X63 hx hby at_139 rfl k))))) ?_
  obtain ⟨_, T65, L65, X65, hQ65, st65⟩ := ocallV X63 hx hZ zm4 zm4 hown (ww hw 37 rfl) (ww hw 38 rfl) (notFace_of_selects (args := #[]) (mvT hZ (ww hw 40 rfl))) (ww hw 40 rfl) (ww hw 39 rfl) (by decide) (ww hw 41 rfl) (ww hw 2 rfl) e63 f58 (rm7_12 l Z a0 hw [] b7 b12 b25 k13 p5 p2 p3 k26 T52.heap n0 Z_6 f59 f60 f61 f55) (st := [(.int 2), (.ref b7)]) rfl 0 rfl (by decide) (pc := 147) (Ls := (lc10 p1 p2 p3 p4 p5 p6 b7 0 1 p5 p2 p3)) hml rfl (lenOf pd_1 rfl) at_147 hby
  obtain ⟨rfl, N65q, e65⟩ := hQ65
  have N66 := Fr.app N64 N65q
  refine own_go (U' := T65.setTop (mkF m 152 (lc10 p1 p2 p3 p4 p5 p6 b7 0 1 p5 p2 p3) [(.int p3), (.int p3)])) (fun t k => oicN X63 hx hby at_141 (teq (rfl : p2 = p2)).2 (oaload X63 hx hby at_144 rfl rfl (oiconst X63 hx hby at_146 (st65 _ (oiload X65 hx hby at_150 rfl k))))) ?_
  refine own_go (U' := T65.setTop (mkF m 160 (lc10 p1 p2 p3 p4 p5 p6 b7 0 1 p5 p2 p3) [(.int 1)])) (fun t k => oicN X65 hx hby at_152 (teq (rfl : p3 = p3)).2 (oiconst X65 hx hby at_155 (ogoto (pc := 156) X65 hx hby at_156 160 (by decide) k))) ?_
  obtain ⟨fs, hr, hrun, hended, hW, hsame⟩ := X65.leave (v := some (.int 1)) (fun h => by rw [Bd.returns] at h; cases h)
  refine own_out ⟨_, _, ?_, hrun, hended, _, _, rfl, ?_, ⟨_, rfl⟩, hW, hsame.mono (by decide) (by decide)⟩
  · exact retN X65 hx (t := .boolean) Bd.returns (by simp) (hb hby at_160) hr
  · exact ⟨rfl, N66⟩
set_option maxRecDepth 65536 in
set_option maxHeartbeats 40000000 in
theorem rm0_16 (l : Launch) (Z : State) (a0 : Array Value) (hw : ∀ d ∈ tables_1, d.before a0 Z = true) (ws : List Jvm.Cond) (p1 : Int32) (p2 : Int32) (p3 : Int32) (p4 : Int32) (p5 : Int32) (p6 : Int32) (h0 : Heap) (n0 : Nat) (Z0 : n0 ≤ h0.size) (hv50 : ((p4 &&& (2147483647 : Int32)) % (3 : Int32)) = (1 : Int32)) (hv51 : (p6 &&& (1 : Int32)) = (0 : Int32)) :
    MetFree l x (head1 (Jvm.Cond.code x code maxLocals ret :: ws) room_1) (fun a U => a = #[(.int p1), (.int p2), (.int p3), (.int p4), (.int p5), (.int p6)] ∧ Z.Warmed39 U.vm ∧ U.heap = h0) (fun _ _ _ _ _ => True) (fun _ U o U' => ∃ v L, o = .returned v ∧ QLaw n0 v U'.heap L ∧ FrameEnd U o U' L room_1.cells room_1.slots) := by
  refine MetFree.of_bodySF (plainFor_of_name pn_com_example_stratafold_stratafold_fhir_IntBlocksGetPinLaw) hisR ?_
  intro p e s m args below meth c s₁ Bd hml0 hP hK
  obtain ⟨rfl, hZ, hh⟩ := hP
  have hx := Bd.exec
  have hby := Bd.bytes
  have hml : c.maxLocals = 12 := hml0
  have hown : s.vm.findClass zs4 = some m.cls := findClass_of_methodNamed Bd.named
  have hnm := (name_of_methodNamed Bd.named Bd.method).1
  have X0 : Stand p l e room_1 s m #[(.int p1), (.int p2), (.int p3), (.int p4), (.int p5), (.int p6)] below meth c s₁ [] 0 0 := Stand.of_body Bd
  have e0 : s₁.heap = h0 := by rw [← hh, Bd.state]; rfl
  have N0 := Fr.nil n0
  refine own_pre (g' := mkF m 0 (lc0 p1 p2 p3 p4 p5 p6) []) (ef_5 m p1 p2 p3 p4 p5 p6) ?_
  obtain ⟨T7, h7, X7, e7, E7, A7, D7, -, st7⟩ := newO X0 hx hZ hown (ww hw 0 rfl) (ww hw 1 rfl) (ww hw 2 rfl) e0 (g := (mkF m 0 (lc0 p1 p2 p3 p4 p5 p6) [])) rfl (hb hby at_0) (by decide) (by decide)
  obtain ⟨b7, g7⟩ : ∃ z, z = h0.size := ⟨_, rfl⟩
  rw [← g7] at A7 D7 st7
  have f8 : Fld Z h7 b7 zs0 "blocks" "[[I" .null := D7 (Or.inl (ww hw 12 rfl)) (ty := (.array (.array .int))) (by decide)
  have f9 : Fld Z h7 b7 zs0 "size" "I" (.int 0) := D7 (Or.inl (ww hw 19 rfl)) (ty := .int) (by decide)
  have g11 : n0 ≤ b7 := Nat.le_trans Z0 (Nat.le_of_eq g7.symm)
  have Z_1 : n0 ≤ h7.size := Nat.le_trans Z0 E7.1
  obtain ⟨_, T10, L10, X10, hQ10, st10⟩ := ocallI X7 hx hZ zm0 rfl hown (ww hw 3 rfl) (ww hw 4 rfl) (by decide) (ww hw 5 rfl) (ww hw 2 rfl) e7 (rm1_0 l Z a0 hw [] b7 h7 n0 Z_1 f8 f9 A7 g11) (st := [(.ref b7), (.ref b7)]) rfl 1 rfl (by decide) (pc := 4) (Ls := (lc0 p1 p2 p3 p4 p5 p6)) hml rfl (lenOf pd_0 rfl) at_4 hby
  obtain ⟨b12, k13, rfl, N10q, K10, sz14, O15, f16, f17, f18, f19⟩ := hQ10
  have N20 := Fr.app N0 N10q
  have f22 : Exa Z T10.heap b7 zs0 := (A7.keep K10)
  have g23 : n0 ≤ b12 := Nat.le_trans Z_1 sz14
  have ne24 : b7 ≠ b12 := Nat.ne_of_lt (Nat.lt_of_lt_of_le (f8.lt) sz14)
  have Z_2 : n0 ≤ T10.heap.size := Nat.le_trans Z_1 K10.1
  obtain ⟨_, T21, L21, X21, hQ21, st21⟩ := ocallV X10 hx hZ zm1 zm1 hown (ww hw 13 rfl) (ww hw 14 rfl) (notFace_of_selects (args := #[]) (mvT hZ (ww hw 16 rfl))) (ww hw 16 rfl) (ww hw 15 rfl) (by decide) (ww hw 17 rfl) (ww hw 2 rfl) rfl f22 (rm3_1 l Z a0 hw [] b7 p1 b12 k13 T10.heap n0 Z_2 f17 f16 f19 O15 g23 ne24 f22 g11) (st := [(.int p1), (.ref b7)]) rfl 0 rfl (by decide) (pc := 12) (Ls := (lc2 p1 p2 p3 p4 p5 p6 b7)) hml rfl (lenOf pd_1 rfl) at_12 hby
  obtain ⟨b25, k26, rfl, N21q, K21, sz27, f28, f29, f30, f31, f32⟩ := hQ21
  have N33 := Fr.app N20 N21q
  have f35 : Exa Z T21.heap b7 zs0 := (f22.keep K21)
  have g36 : n0 ≤ b25 := Nat.le_trans Z_2 sz27
  have ne37 : b7 ≠ b25 := Nat.ne_of_lt (Nat.lt_of_lt_of_le (Nat.lt_of_lt_of_le (f8.lt) K10.1) sz27)
  have Z_3 : n0 ≤ T21.heap.size := Nat.le_trans Z_2 K21.1
  obtain ⟨_, T34, L34, X34, hQ34, st34⟩ := ocallV X21 hx hZ zm1 zm1 hown (ww hw 13 rfl) (ww hw 14 rfl) (notFace_of_selects (args := #[]) (mvT hZ (ww hw 16 rfl))) (ww hw 16 rfl) (ww hw 15 rfl) (by decide) (ww hw 17 rfl) (ww hw 2 rfl) rfl f35 (rm3_2 l Z a0 hw [] b7 p2 b12 b25 k13 p1 k26 T21.heap n0 Z_3 f29 f30 f28 f32 g36 ne37 f35 g11) (st := [(.int p2), (.ref b7)]) rfl 0 rfl (by decide) (pc := 19) (Ls := (lc2 p1 p2 p3 p4 p5 p6 b7)) hml rfl (lenOf pd_1 rfl) at_19 hby
  obtain ⟨rfl, N34q, K34, f38, f39, f40⟩ := hQ34
  have N41 := Fr.app N33 N34q
  have f43 : Exa Z T34.heap b7 zs0 := (f35.keep K34)
  have ne44 : b12 ≠ b25 := Nat.ne_of_lt (Nat.lt_of_lt_of_le (f18.lt) sz27)
  have f45 : Arv Z T34.heap b12 k13 (.array .int) (16 : Int32) [(.ref b25)] .null := (f28.keep K34 (ninS ne44 (ninS (Ne.symm ne24) nin0)))
  have Z_4 : n0 ≤ T34.heap.size := Nat.le_trans Z_3 K34.1
  obtain ⟨_, T42, L42, X42, hQ42, st42⟩ := ocallV X34 hx hZ zm1 zm1 hown (ww hw 13 rfl) (ww hw 14 rfl) (notFace_of_selects (args := #[]) (mvT hZ (ww hw 16 rfl))) (ww hw 16 rfl) (ww hw 15 rfl) (by decide) (ww hw 17 rfl) (ww hw 2 rfl) rfl f43 (rm3_3 l Z a0 hw [] b7 p3 b12 b25 k13 p1 p2 k26 T34.heap n0 Z_4 f39 f40 f45 f38 g36 ne37 f43 g11) (st := [(.int p3), (.ref b7)]) rfl 0 rfl (by decide) (pc := 26) (Ls := (lc2 p1 p2 p3 p4 p5 p6 b7)) hml rfl (lenOf pd_1 rfl) at_26 hby
  obtain ⟨rfl, N42q, K42, f46, f47, f48⟩ := hQ42
  have N49 := Fr.app N41 N42q
  refine own_go (U' := T42.setTop (mkF m 36 (lc2 p1 p2 p3 p4 p5 p6 b7) [(.int ((p4 &&& (2147483647 : Int32)) % (3 : Int32)))])) (fun t k => st7 _ (odup X7 hx hby at_3 rfl (st10 _ (oastore X10 hx hby at_7 (lc2 p1 p2 p3 p4 p5 p6 b7) rfl rfl (oaload X10 hx hby at_9 rfl rfl (oiloadN X10 hx hby at_11 rfl (st21 _ (opop X21 hx hby at_15 rfl (oaload X21 hx hby at_16 rfl rfl (oiloadN X21 hx hby at_18 rfl (st34 _ (opop X34 hx hby at_22 rfl (oaload X34 hx hby at_23 rfl rfl (oiloadN X34 hx hby at_25 rfl (st42 _ (opop X42 hx hby at_29 rfl (oiloadN X42 hx hby at_30 rfl (X42.ldcInt hx hown (mvT hZ (ww hw 23 rfl)) (g := (mkF m 31 (lc2 p1 p2 p3 p4 p5 p6 b7) [(.int p4)])) rfl (hb hby at_31) _ (oiand X42 hx hby at_33 (oiconst X42 hx hby at_34 (oirem X42 hx hby at_35 (by decide) k))))))))))))))))))))) ?_
  rw [hv50]
  refine own_go (U' := T42.setTop (mkF m 42 (lc6 p1 p2 p3 p4 p5 p6 b7 1) [(.int (p6 &&& (1 : Int32)))])) (fun t k => oistore X42 hx hby at_36 (lc6 p1 p2 p3 p4 p5 p6 b7 1) rfl (oiload X42 hx hby at_38 rfl (oiconst X42 hx hby at_40 (oiand X42 hx hby at_41 k)))) ?_
  rw [hv51]
  refine own_go (U' := T42.setTop (mkF m 54 (lc7 p1 p2 p3 p4 p5 p6 b7 1 0) [(.int 0)])) (fun t k => oifY (pc := 42) X42 hx hby at_42 49 (by decide) (by decide) (oiconst X42 hx hby at_49 (oistore X42 hx hby at_50 (lc7 p1 p2 p3 p4 p5 p6 b7 1 0) rfl (oiload X42 hx hby at_52 rfl k)))) ?_
  refine own_go (U' := T42.setTop (mkF m 68 (lc7 p1 p2 p3 p4 p5 p6 b7 1 0) [(.int 0)])) (fun t k => oifY (pc := 54) X42 hx hby at_54 66 (by decide) (by decide) (oiload X42 hx hby at_66 rfl k)) ?_
  refine own_go (U' := T42.setTop (mkF m 86 (lc8 p1 p2 p3 p4 p5 p6 b7 1 0 p1) [(.int 0)])) (fun t k => oifY (pc := 68) X42 hx hby at_68 81 (by decide) (by decide) (oiloadN X42 hx hby at_81 rfl (oistore X42 hx hby at_82 (lc8 p1 p2 p3 p4 p5 p6 b7 1 0 p1) rfl (oiload X42 hx hby at_84 rfl k)))) ?_
  refine own_go (U' := T42.setTop (mkF m 105 (lc9 p1 p2 p3 p4 p5 p6 b7 1 0 p1 p2) [(.int 0)])) (fun t k => oifY (pc := 86) X42 hx hby at_86 100 (by decide) (by decide) (oiloadN X42 hx hby at_100 rfl (oistore X42 hx hby at_101 (lc9 p1 p2 p3 p4 p5 p6 b7 1 0 p1 p2) rfl (oiload X42 hx hby at_103 rfl k)))) ?_
  have f53 : Exa Z T42.heap b7 zs0 := (f43.keep K42)
  have f54 : Arv Z T42.heap b12 k13 (.array .int) (16 : Int32) [(.ref b25)] .null := (f45.keep K42 (ninS ne44 (ninS (Ne.symm ne24) nin0)))
  have Z_5 : n0 ≤ T42.heap.size := Nat.le_trans Z_4 K42.1
  obtain ⟨_, T52, L52, X52, hQ52, st52⟩ := ocallV X42 hx hZ zm4 zm4 hown (ww hw 37 rfl) (ww hw 38 rfl) (notFace_of_selects (args := #[]) (mvT hZ (ww hw 40 rfl))) (ww hw 40 rfl) (ww hw 39 rfl) (by decide) (ww hw 41 rfl) (ww hw 2 rfl) rfl f53 (rm7_6 l Z a0 hw [] b7 b12 b25 k13 p1 p2 p3 k26 T42.heap n0 Z_5 f47 f48 f54 f46) (st := [(.int 0), (.ref b7)]) rfl 0 rfl (by decide) (pc := 125) (Ls := (lc10 p1 p2 p3 p4 p5 p6 b7 1 0 p1 p2 p3)) hml rfl (lenOf pd_1 rfl) at_125 hby
  obtain ⟨rfl, N52q, e52⟩ := hQ52
  have N55 := Fr.app N49 N52q
  refine own_go (U' := T52.setTop (mkF m 130 (lc10 p1 p2 p3 p4 p5 p6 b7 1 0 p1 p2 p3) [(.int p1), (.int p1)])) (fun t k => oifY (pc := 105) X42 hx hby at_105 119 (by decide) (by decide) (oiloadN X42 hx hby at_119 rfl (oistore X42 hx hby at_120 (lc10 p1 p2 p3 p4 p5 p6 b7 1 0 p1 p2 p3) rfl (oaload X42 hx hby at_122 rfl rfl (oiconst X42 hx hby at_124 (st52 _ (oiload X52 hx hby at_128 rfl k))))))) ?_
  obtain ⟨_, T56, L56, X56, hQ56, st56⟩ := ocallV X52 hx hZ zm4 zm4 hown (ww hw 37 rfl) (ww hw 38 rfl) (notFace_of_selects (args := #[]) (mvT hZ (ww hw 40 rfl))) (ww hw 40 rfl) (ww hw 39 rfl) (by decide) (ww hw 41 rfl) (ww hw 2 rfl) e52 f53 (rm7_9 l Z a0 hw [] b7 b12 b25 k13 p1 p2 p3 k26 T42.heap n0 Z_5 f47 f48 f54 f46) (st := [(.int 1), (.ref b7)]) rfl 0 rfl (by decide) (pc := 136) (Ls := (lc10 p1 p2 p3 p4 p5 p6 b7 1 0 p1 p2 p3)) hml rfl (lenOf pd_1 rfl) at_136 hby
  obtain ⟨rfl, N56q, e56⟩ := hQ56
  have N57 := Fr.app N55 N56q
  refine own_go (U' := T56.setTop (mkF m 141 (lc10 p1 p2 p3 p4 p5 p6 b7 1 0 p1 p2 p3) [(.int p2), (.int p2)])) (fun t k => oicN X52 hx hby at_130 (teq (rfl : p1 = p1)).2 (oaload X52 hx hby at_133 rfl rfl (oiconst X52 hx hby at_135 (st56 _ (oiload X56 hx hby at_139 rfl k))))) ?_
  obtain ⟨_, T58, L58, X58, hQ58, st58⟩ := ocallV X56 hx hZ zm4 zm4 hown (ww hw 37 rfl) (ww hw 38 rfl) (notFace_of_selects (args := #[]) (mvT hZ (ww hw 40 rfl))) (ww hw 40 rfl) (ww hw 39 rfl) (by decide) (ww hw 41 rfl) (ww hw 2 rfl) e56 f53 (rm7_12 l Z a0 hw [] b7 b12 b25 k13 p1 p2 p3 k26 T42.heap n0 Z_5 f47 f48 f54 f46) (st := [(.int 2), (.ref b7)]) rfl 0 rfl (by decide) (pc := 147) (Ls := (lc10 p1 p2 p3 p4 p5 p6 b7 1 0 p1 p2 p3)) hml rfl (lenOf pd_1 rfl) at_147 hby
  obtain ⟨rfl, N58q, e58⟩ := hQ58
  have N59 := Fr.app N57 N58q
  refine own_go (U' := T58.setTop (mkF m 152 (lc10 p1 p2 p3 p4 p5 p6 b7 1 0 p1 p2 p3) [(.int p3), (.int p3)])) (fun t k => oicN X56 hx hby at_141 (teq (rfl : p2 = p2)).2 (oaload X56 hx hby at_144 rfl rfl (oiconst X56 hx hby at_146 (st58 _ (oiload X58 hx hby at_150 rfl k))))) ?_
  refine own_go (U' := T58.setTop (mkF m 160 (lc10 p1 p2 p3 p4 p5 p6 b7 1 0 p1 p2 p3) [(.int 1)])) (fun t k => oicN X58 hx hby at_152 (teq (rfl : p3 = p3)).2 (oiconst X58 hx hby at_155 (ogoto (pc := 156) X58 hx hby at_156 160 (by decide) k))) ?_
  obtain ⟨fs, hr, hrun, hended, hW, hsame⟩ := X58.leave (v := some (.int 1)) (fun h => by rw [Bd.returns] at h; cases h)
  refine own_out ⟨_, _, ?_, hrun, hended, _, _, rfl, ?_, ⟨_, rfl⟩, hW, hsame.mono (by decide) (by decide)⟩
  · exact retN X58 hx (t := .boolean) Bd.returns (by simp) (hb hby at_160) hr
  · exact ⟨rfl, N59⟩
def Q4_17 (Z : State) (a1 : Addr) (p2 : Int32) (a7 : Addr) (a10 : Addr) (kc11 : ClassId) (p15 : Int32) (p16 : Int32) (p17 : Int32) (kc18 : ClassId) (h0 : Heap) (n0 : Nat) (v : Option Value) (h : Heap) (L : List Loc) : Prop := v = none ∧ Fr n0 L ∧ Keep h0 h [a10] ∧ Arv Z h a10 kc18 .int (16 : Int32) [(.int p15), (.int p2), (.int p17)] (.int (0 : Int32))
set_option maxRecDepth 65536 in
set_option maxHeartbeats 40000000 in
theorem rm4_17 (l : Launch) (Z : State) (a0 : Array Value) (hw : ∀ d ∈ tables_1, d.before a0 Z = true) (ws : List Jvm.Cond) (a1 : Addr) (p2 : Int32) (a7 : Addr) (a10 : Addr) (kc11 : ClassId) (p15 : Int32) (p16 : Int32) (p17 : Int32) (kc18 : ClassId) (h0 : Heap) (n0 : Nat) (Z0 : n0 ≤ h0.size) (F3 : Fld Z h0 a1 zs0 "size" "I" (.int 3)) (F8 : Fld Z h0 a1 zs0 "blocks" "[[I" (.ref a7)) (F12 : Arv Z h0 a7 kc11 (.array .int) (16 : Int32) [(.ref a10)] .null) (F19 : Arv Z h0 a10 kc18 .int (16 : Int32) [(.int p15), (.int p16), (.int p17)] (.int (0 : Int32))) (g22 : n0 ≤ a10) :
    MetFree l zm5 (head1 (Jvm.Cond.code zm5 prog_21_method_5_code 3 none :: ws) ({ frames := 2, cells := 0, slots := 0, locals := 27 } : Room)) (fun a U => a = #[(.ref a1), (.int 1), (.int p2)] ∧ Z.Warmed39 U.vm ∧ U.heap = h0) (fun _ _ _ _ _ => True) (fun _ U o U' => ∃ v L, o = .returned v ∧ Q4_17 Z a1 p2 a7 a10 kc11 p15 p16 p17 kc18 h0 n0 v U'.heap L ∧ FrameEnd U o U' L ({ frames := 2, cells := 0, slots := 0, locals := 27 } : Room).cells ({ frames := 2, cells := 0, slots := 0, locals := 27 } : Room).slots) := by
  refine MetFree.of_bodySF (plainFor_of_name pn_com_example_stratafold_stratafold_fhir_IntBlocks) hisR ?_
  intro p e s m args below meth c s₁ Bd hml0 hP hK
  obtain ⟨rfl, hZ, hh⟩ := hP
  have hx := Bd.exec
  have hby := Bd.bytes
  have hml : c.maxLocals = 3 := hml0
  have hown : s.vm.findClass zs0 = some m.cls := findClass_of_methodNamed Bd.named
  have hnm := (name_of_methodNamed Bd.named Bd.method).1
  have X0 : Stand p l e ({ frames := 2, cells := 0, slots := 0, locals := 27 } : Room) s m #[(.ref a1), (.int 1), (.int p2)] below meth c s₁ [] 0 0 := Stand.of_body Bd
  have e0 : s₁.heap = h0 := by rw [← hh, Bd.state]; rfl
  have N0 := Fr.nil n0
  refine own_pre (g' := mkF m 0 (lc14 a1 1 p2) []) (ef_6 m a1 (1 : Int32) p2) ?_
  obtain ⟨T4, X4, e4, st4⟩ := getF X0 hx hZ hown (host := "") (Or.inl (ww hw 18 rfl)) Via.refl e0 F3 (g := (mkF m 2 (lc14 a1 1 p2) [(.ref a1), (.int 1)])) rfl rfl (hb hby d4_2)
  obtain ⟨_, T5, L5, X5, hQ5, st5⟩ := ocallS X4 hx hZ zm3 hown (ww hw 29 rfl) (ww hw 30 rfl) (by decide) (ww hw 32 rfl) (ww hw 31 rfl) e4 (rm5_8 l Z a0 hw []  h0 n0 Z0 ) (st := [(.int 3), (.int 1)]) rfl 0 rfl (by decide) (pc := 5) (Ls := (lc14 a1 1 p2)) hml rfl (lenOf pd_3 rfl) d4_5 hby
  obtain ⟨rfl, N5q, e5⟩ := hQ5
  have N6 := Fr.app N0 N5q
  obtain ⟨T9, X9, e9, st9⟩ := getF X5 hx hZ hown (host := "") (Or.inl (ww hw 11 rfl)) Via.refl e5 F8 (g := (mkF m 10 (lc14 a1 1 p2) [(.ref a1)])) rfl rfl (hb hby d4_10)
  obtain ⟨cl13, Ar13, q13, S13, N13, H13, G13⟩ := id F12
  have hin14 : ¬ ((0 : Int32) < 0 ∨ cl13.slots.size ≤ ((0 : Int32)).toNatClampNeg) := inb_of S13 ⟨by decide, by decide⟩
  have hat14 : cl13.slots[((0 : Int32)).toNatClampNeg]? = some (.ref a10) := Has.at H13 hin14 rfl
  obtain ⟨cl20, Ar20, q20, S20, N20, H20, G20⟩ := id F19
  have hin21 : ¬ ((1 : Int32) < 0 ∨ cl20.slots.size ≤ ((1 : Int32)).toNatClampNeg) := inb_of S20 ⟨by decide, by decide⟩
  obtain ⟨T21, h21, X21, e21, W21, st21⟩ := stI X9 hx hZ e9 Ar20 (j := (1 : Int32)) hin21 (g := (mkF m 24 (lc14 a1 1 p2) [(.int p2), (.int 1), (.ref a10)])) rfl rfl (hb hby d4_24)
  have N23 := Fr.snoc X21 N6 g22
  have f24 : Arv Z h21 a10 kc18 .int (16 : Int32) [(.int p15), (.int p2), (.int p17)] (.int (0 : Int32)) := Arv.set Ar20 q20 S20 N20 H20 G20 (by rfl) W21 1 rfl (Nat.le_of_ble_eq_true rfl)
  refine own_go (U' := T21.setTop (mkF m 25 (lc14 a1 1 p2) [])) (fun t k => oiloadN X0 hx hby d4_0 rfl (oaloadN X0 hx hby d4_1 rfl rfl (st4 _ (st5 _ (opop X5 hx hby d4_8 rfl (oaloadN X5 hx hby d4_9 rfl rfl (st9 _ (oiloadN X9 hx hby d4_13 rfl (obipush X9 hx hby d4_14 (oiushr X9 hx hby d4_16 (X9.aaload hx (j := (0 : Int32)) (v := (.ref a10)) (by rw [e9]; exact Ar13.1) (State.isArrayOf_alike hZ.alike Ar13.2.1) rfl Ar13.2.2 hin14 hat14 (g := (mkF m 17 (lc14 a1 1 p2) [(.int 0), (.ref a7)])) rfl rfl (hb hby d4_17) _ (oiloadN X9 hx hby d4_18 rfl (osipush X9 hx hby d4_19 (oiand X9 hx hby d4_22 (oiloadN X9 hx hby d4_23 rfl (st21 _ k)))))))))))))))) ?_
  obtain ⟨fs, hr, hrun, hended, hW, hsame⟩ := X21.leave (v := none) (fun _ => rfl)
  refine own_out ⟨_, _, ?_, hrun, hended, _, _, rfl, ?_, ⟨_, rfl⟩, hW, hsame.mono (by decide) (by decide)⟩
  · exact X21.returnOut hx Bd.returns (hb hby d4_25) hr
  · show Q4_17 Z a1 p2 a7 a10 kc11 p15 p16 p17 kc18 h0 n0 _ T21.heap _
    rw [e21]
    exact ⟨rfl, N23, ((Keep.refl h0 [a10]).wr W21 (Or.inl (List.mem_of_getElem? (i := 0) rfl))), f24⟩
set_option maxRecDepth 65536 in
set_option maxHeartbeats 40000000 in
theorem rm0_18 (l : Launch) (Z : State) (a0 : Array Value) (hw : ∀ d ∈ tables_1, d.before a0 Z = true) (ws : List Jvm.Cond) (p1 : Int32) (p2 : Int32) (p3 : Int32) (p4 : Int32) (p5 : Int32) (p6 : Int32) (h0 : Heap) (n0 : Nat) (Z0 : n0 ≤ h0.size) (hv50 : ((p4 &&& (2147483647 : Int32)) % (3 : Int32)) = (1 : Int32)) (hv51 : (p6 &&& (1 : Int32)) = (1 : Int32)) :
    MetFree l x (head1 (Jvm.Cond.code x code maxLocals ret :: ws) room_1) (fun a U => a = #[(.int p1), (.int p2), (.int p3), (.int p4), (.int p5), (.int p6)] ∧ Z.Warmed39 U.vm ∧ U.heap = h0) (fun _ _ _ _ _ => True) (fun _ U o U' => ∃ v L, o = .returned v ∧ QLaw n0 v U'.heap L ∧ FrameEnd U o U' L room_1.cells room_1.slots) := by
  refine MetFree.of_bodySF (plainFor_of_name pn_com_example_stratafold_stratafold_fhir_IntBlocksGetPinLaw) hisR ?_
  intro p e s m args below meth c s₁ Bd hml0 hP hK
  obtain ⟨rfl, hZ, hh⟩ := hP
  have hx := Bd.exec
  have hby := Bd.bytes
  have hml : c.maxLocals = 12 := hml0
  have hown : s.vm.findClass zs4 = some m.cls := findClass_of_methodNamed Bd.named
  have hnm := (name_of_methodNamed Bd.named Bd.method).1
  have X0 : Stand p l e room_1 s m #[(.int p1), (.int p2), (.int p3), (.int p4), (.int p5), (.int p6)] below meth c s₁ [] 0 0 := Stand.of_body Bd
  have e0 : s₁.heap = h0 := by rw [← hh, Bd.state]; rfl
  have N0 := Fr.nil n0
  refine own_pre (g' := mkF m 0 (lc0 p1 p2 p3 p4 p5 p6) []) (ef_5 m p1 p2 p3 p4 p5 p6) ?_
  obtain ⟨T7, h7, X7, e7, E7, A7, D7, -, st7⟩ := newO X0 hx hZ hown (ww hw 0 rfl) (ww hw 1 rfl) (ww hw 2 rfl) e0 (g := (mkF m 0 (lc0 p1 p2 p3 p4 p5 p6) [])) rfl (hb hby at_0) (by decide) (by decide)
  obtain ⟨b7, g7⟩ : ∃ z, z = h0.size := ⟨_, rfl⟩
  rw [← g7] at A7 D7 st7
  have f8 : Fld Z h7 b7 zs0 "blocks" "[[I" .null := D7 (Or.inl (ww hw 12 rfl)) (ty := (.array (.array .int))) (by decide)
  have f9 : Fld Z h7 b7 zs0 "size" "I" (.int 0) := D7 (Or.inl (ww hw 19 rfl)) (ty := .int) (by decide)
  have g11 : n0 ≤ b7 := Nat.le_trans Z0 (Nat.le_of_eq g7.symm)
  have Z_1 : n0 ≤ h7.size := Nat.le_trans Z0 E7.1
  obtain ⟨_, T10, L10, X10, hQ10, st10⟩ := ocallI X7 hx hZ zm0 rfl hown (ww hw 3 rfl) (ww hw 4 rfl) (by decide) (ww hw 5 rfl) (ww hw 2 rfl) e7 (rm1_0 l Z a0 hw [] b7 h7 n0 Z_1 f8 f9 A7 g11) (st := [(.ref b7), (.ref b7)]) rfl 1 rfl (by decide) (pc := 4) (Ls := (lc0 p1 p2 p3 p4 p5 p6)) hml rfl (lenOf pd_0 rfl) at_4 hby
  obtain ⟨b12, k13, rfl, N10q, K10, sz14, O15, f16, f17, f18, f19⟩ := hQ10
  have N20 := Fr.app N0 N10q
  have f22 : Exa Z T10.heap b7 zs0 := (A7.keep K10)
  have g23 : n0 ≤ b12 := Nat.le_trans Z_1 sz14
  have ne24 : b7 ≠ b12 := Nat.ne_of_lt (Nat.lt_of_lt_of_le (f8.lt) sz14)
  have Z_2 : n0 ≤ T10.heap.size := Nat.le_trans Z_1 K10.1
  obtain ⟨_, T21, L21, X21, hQ21, st21⟩ := ocallV X10 hx hZ zm1 zm1 hown (ww hw 13 rfl) (ww hw 14 rfl) (notFace_of_selects (args := #[]) (mvT hZ (ww hw 16 rfl))) (ww hw 16 rfl) (ww hw 15 rfl) (by decide) (ww hw 17 rfl) (ww hw 2 rfl) rfl f22 (rm3_1 l Z a0 hw [] b7 p1 b12 k13 T10.heap n0 Z_2 f17 f16 f19 O15 g23 ne24 f22 g11) (st := [(.int p1), (.ref b7)]) rfl 0 rfl (by decide) (pc := 12) (Ls := (lc2 p1 p2 p3 p4 p5 p6 b7)) hml rfl (lenOf pd_1 rfl) at_12 hby
  obtain ⟨b25, k26, rfl, N21q, K21, sz27, f28, f29, f30, f31, f32⟩ := hQ21
  have N33 := Fr.app N20 N21q
  have f35 : Exa Z T21.heap b7 zs0 := (f22.keep K21)
  have g36 : n0 ≤ b25 := Nat.le_trans Z_2 sz27
  have ne37 : b7 ≠ b25 := Nat.ne_of_lt (Nat.lt_of_lt_of_le (Nat.lt_of_lt_of_le (f8.lt) K10.1) sz27)
  have Z_3 : n0 ≤ T21.heap.size := Nat.le_trans Z_2 K21.1
  obtain ⟨_, T34, L34, X34, hQ34, st34⟩ := ocallV X21 hx hZ zm1 zm1 hown (ww hw 13 rfl) (ww hw 14 rfl) (notFace_of_selects (args := #[]) (mvT hZ (ww hw 16 rfl))) (ww hw 16 rfl) (ww hw 15 rfl) (by decide) (ww hw 17 rfl) (ww hw 2 rfl) rfl f35 (rm3_2 l Z a0 hw [] b7 p2 b12 b25 k13 p1 k26 T21.heap n0 Z_3 f29 f30 f28 f32 g36 ne37 f35 g11) (st := [(.int p2), (.ref b7)]) rfl 0 rfl (by decide) (pc := 19) (Ls := (lc2 p1 p2 p3 p4 p5 p6 b7)) hml rfl (lenOf pd_1 rfl) at_19 hby
  obtain ⟨rfl, N34q, K34, f38, f39, f40⟩ := hQ34
  have N41 := Fr.app N33 N34q
  have f43 : Exa Z T34.heap b7 zs0 := (f35.keep K34)
  have ne44 : b12 ≠ b25 := Nat.ne_of_lt (Nat.lt_of_lt_of_le (f18.lt) sz27)
  have f45 : Arv Z T34.heap b12 k13 (.array .int) (16 : Int32) [(.ref b25)] .null := (f28.keep K34 (ninS ne44 (ninS (Ne.symm ne24) nin0)))
  have Z_4 : n0 ≤ T34.heap.size := Nat.le_trans Z_3 K34.1
  obtain ⟨_, T42, L42, X42, hQ42, st42⟩ := ocallV X34 hx hZ zm1 zm1 hown (ww hw 13 rfl) (ww hw 14 rfl) (notFace_of_selects (args := #[]) (mvT hZ (ww hw 16 rfl))) (ww hw 16 rfl) (ww hw 15 rfl) (by decide) (ww hw 17 rfl) (ww hw 2 rfl) rfl f43 (rm3_3 l Z a0 hw [] b7 p3 b12 b25 k13 p1 p2 k26 T34.heap n0 Z_4 f39 f40 f45 f38 g36 ne37 f43 g11) (st := [(.int p3), (.ref b7)]) rfl 0 rfl (by decide) (pc := 26) (Ls := (lc2 p1 p2 p3 p4 p5 p6 b7)) hml rfl (lenOf pd_1 rfl) at_26 hby
  obtain ⟨rfl, N42q, K42, f46, f47, f48⟩ := hQ42
  have N49 := Fr.app N41 N42q
  refine own_go (U' := T42.setTop (mkF m 36 (lc2 p1 p2 p3 p4 p5 p6 b7) [(.int ((p4 &&& (2147483647 : Int32)) % (3 : Int32)))])) (fun t k => st7 _ (odup X7 hx hby at_3 rfl (st10 _ (oastore X10 hx hby at_7 (lc2 p1 p2 p3 p4 p5 p6 b7) rfl rfl (oaload X10 hx hby at_9 rfl rfl (oiloadN X10 hx hby at_11 rfl (st21 _ (opop X21 hx hby at_15 rfl (oaload X21 hx hby at_16 rfl rfl (oiloadN X21 hx hby at_18 rfl (st34 _ (opop X34 hx hby at_22 rfl (oaload X34 hx hby at_23 rfl rfl (oiloadN X34 hx hby at_25 rfl (st42 _ (opop X42 hx hby at_29 rfl (oiloadN X42 hx hby at_30 rfl (X42.ldcInt hx hown (mvT hZ (ww hw 23 rfl)) (g := (mkF m 31 (lc2 p1 p2 p3 p4 p5 p6 b7) [(.int p4)])) rfl (hb hby at_31) _ (oiand X42 hx hby at_33 (oiconst X42 hx hby at_34 (oirem X42 hx hby at_35 (by decide) k))))))))))))))))))))) ?_
  rw [hv50]
  refine own_go (U' := T42.setTop (mkF m 42 (lc6 p1 p2 p3 p4 p5 p6 b7 1) [(.int (p6 &&& (1 : Int32)))])) (fun t k => oistore X42 hx hby at_36 (lc6 p1 p2 p3 p4 p5 p6 b7 1) rfl (oiload X42 hx hby at_38 rfl (oiconst X42 hx hby at_40 (oiand X42 hx hby at_41 k)))) ?_
  rw [hv51]
  refine own_go (U' := T42.setTop (mkF m 54 (lc7 p1 p2 p3 p4 p5 p6 b7 1 1) [(.int 1)])) (fun t k => oifN X42 hx hby at_42 (by decide) (oiconst X42 hx hby at_45 (ogoto (pc := 46) X42 hx hby at_46 50 (by decide) (oistore X42 hx hby at_50 (lc7 p1 p2 p3 p4 p5 p6 b7 1 1) rfl (oiload X42 hx hby at_52 rfl k))))) ?_
  have f53 : Exa Z T42.heap b7 zs0 := (f43.keep K42)
  have f54 : Arv Z T42.heap b12 k13 (.array .int) (16 : Int32) [(.ref b25)] .null := (f45.keep K42 (ninS ne44 (ninS (Ne.symm ne24) nin0)))
  have Z_5 : n0 ≤ T42.heap.size := Nat.le_trans Z_4 K42.1
  obtain ⟨_, T52, L52, X52, hQ52, st52⟩ := ocallV X42 hx hZ zm5 zm5 hown (ww hw 24 rfl) (ww hw 25 rfl) (notFace_of_selects (args := #[]) (mvT hZ (ww hw 27 rfl))) (ww hw 27 rfl) (ww hw 26 rfl) (by decide) (ww hw 28 rfl) (ww hw 2 rfl) rfl f53 (rm4_17 l Z a0 hw [] b7 p5 b12 b25 k13 p1 p2 p3 k26 T42.heap n0 Z_5 f47 f48 f54 f46 g36) (st := [(.int p5), (.int 1), (.ref b7)]) rfl 0 rfl (by decide) (pc := 63) (Ls := (lc7 p1 p2 p3 p4 p5 p6 b7 1 1)) hml rfl (lenOf pd_4 rfl) at_63 hby
  obtain ⟨rfl, N52q, K52, f55⟩ := hQ52
  have N56 := Fr.app N49 N52q
  refine own_go (U' := T52.setTop (mkF m 68 (lc7 p1 p2 p3 p4 p5 p6 b7 1 1) [(.int 1)])) (fun t k => oifN X42 hx hby at_54 (by decide) (oaload X42 hx hby at_57 rfl rfl (oiload X42 hx hby at_59 rfl (oiload X42 hx hby at_61 rfl (st52 _ (oiload X52 hx hby at_66 rfl k)))))) ?_
  refine own_go (U' := T52.setTop (mkF m 73 (lc7 p1 p2 p3 p4 p5 p6 b7 1 1) [(.int 1)])) (fun t k => oifN X52 hx hby at_68 (by decide) (oiload X52 hx hby at_71 rfl k)) ?_
  refine own_go (U' := T52.setTop (mkF m 86 (lc8 p1 p2 p3 p4 p5 p6 b7 1 1 p1) [(.int 1)])) (fun t k => oifY (pc := 73) X52 hx hby at_73 81 (by decide) (by decide) (oiloadN X52 hx hby at_81 rfl (oistore X52 hx hby at_82 (lc8 p1 p2 p3 p4 p5 p6 b7 1 1 p1) rfl (oiload X52 hx hby at_84 rfl k)))) ?_
  refine own_go (U' := T52.setTop (mkF m 92 (lc8 p1 p2 p3 p4 p5 p6 b7 1 1 p1) [(.int 1), (.int 1)])) (fun t k => oifN X52 hx hby at_86 (by decide) (oiload X52 hx hby at_89 rfl (oiconst X52 hx hby at_91 k))) ?_
  refine own_go (U' := T52.setTop (mkF m 105 (lc9 p1 p2 p3 p4 p5 p6 b7 1 1 p1 p5) [(.int 1)])) (fun t k => oicN X52 hx hby at_92 (by decide) (oiload X52 hx hby at_95 rfl (ogoto (pc := 97) X52 hx hby at_97 101 (by decide) (oistore X52 hx hby at_101 (lc9 p1 p2 p3 p4 p5 p6 b7 1 1 p1 p5) rfl (oiload X52 hx hby at_103 rfl k))))) ?_
  refine own_go (U' := T52.setTop (mkF m 111 (lc9 p1 p2 p3 p4 p5 p6 b7 1 1 p1 p5) [(.int 2), (.int 1)])) (fun t k => oifN X52 hx hby at_105 (by decide) (oiload X52 hx hby at_108 rfl (oiconst X52 hx hby at_110 k))) ?_
  have f58 : Exa Z T52.heap b7 zs0 := (f53.keep K52)
  have f59 : Fld Z T52.heap b7 zs0 "size" "I" (.int 3) := (f47.keep K52 (ninS ne37 nin0))
  have f60 : Fld Z T52.heap b7 zs0 "blocks" "[[I" (.ref b12) := (f48.keep K52 (ninS ne37 nin0))
  have f61 : Arv Z T52.heap b12 k13 (.array .int) (16 : Int32) [(.ref b25)] .null := (f54.keep K52 (ninS ne44 nin0))
  have Z_6 : n0 ≤ T52.heap.size := Nat.le_trans Z_5 K52.1
  obtain ⟨_, T57, L57, X57, hQ57, st57⟩ := ocallV X52 hx hZ zm4 zm4 hown (ww hw 37 rfl) (ww hw 38 rfl) (notFace_of_selects (args := #[]) (mvT hZ (ww hw 40 rfl))) (ww hw 40 rfl) (ww hw 39 rfl) (by decide) (ww hw 41 rfl) (ww hw 2 rfl) rfl f58 (rm7_6 l Z a0 hw [] b7 b12 b25 k13 p1 p5 p3 k26 T52.heap n0 Z_6 f59 f60 f61 f55) (st := [(.int 0), (.ref b7)]) rfl 0 rfl (by decide) (pc := 125) (Ls := (lc10 p1 p2 p3 p4 p5 p6 b7 1 1 p1 p5 p3)) hml rfl (lenOf pd_1 rfl) at_125 hby
  obtain ⟨rfl, N57q, e57⟩ := hQ57
  have N62 := Fr.app N56 N57q
  refine own_go (U' := T57.setTop (mkF m 130 (lc10 p1 p2 p3 p4 p5 p6 b7 1 1 p1 p5 p3) [(.int p1), (.int p1)])) (fun t k => oicY (pc := 111) X52 hx hby at_111 119 (by decide) (by decide) (oiloadN X52 hx hby at_119 rfl (oistore X52 hx hby at_120 (lc10 p1 p2 p3 p4 p5 p6 b7 1 1 p1 p5 p3) rfl (oaload X52 hx hby at_122 rfl rfl (oiconst X52 hx hby at_124 (st57 _ (oiload X57 hx hby at_128 rfl k))))))) ?_
  obtain ⟨_, T63, L63, X63, hQ63, st63⟩ := ocallV X57 hx hZ zm4 zm4 hown (ww hw 37 rfl) (ww hw 38 rfl) (notFace_of_selects (args := #[]) (mvT hZ (ww hw 40 rfl))) (ww hw 40 rfl) (ww hw 39 rfl) (by decide) (ww hw 41 rfl) (ww hw 2 rfl) e57 f58 (rm7_9 l Z a0 hw [] b7 b12 b25 k13 p1 p5 p3 k26 T52.heap n0 Z_6 f59 f60 f61 f55) (st := [(.int 1), (.ref b7)]) rfl 0 rfl (by decide) (pc := 136) (Ls := (lc10 p1 p2 p3 p4 p5 p6 b7 1 1 p1 p5 p3)) hml rfl (lenOf pd_1 rfl) at_136 hby
  obtain ⟨rfl, N63q, e63⟩ := hQ63
  have N64 := Fr.app N62 N63q
  refine own_go (U' := T63.setTop (mkF m 141 (lc10 p1 p2 p3 p4 p5 p6 b7 1 1 p1 p5 p3) [(.int p5), (.int p5)])) (fun t k => oicN X57 hx hby at_130 (teq (rfl : p1 = p1)).2 (oaload X57 hx hby at_133 rfl rfl (oiconst X57 hx hby at_135 (st63 _ (oiload X63 hx hby at_139 rfl k))))) ?_
  obtain ⟨_, T65, L65, X65, hQ65, st65⟩ := ocallV X63 hx hZ zm4 zm4 hown (ww hw 37 rfl) (ww hw 38 rfl) (notFace_of_selects (args := #[]) (mvT hZ (ww hw 40 rfl))) (ww hw 40 rfl) (ww hw 39 rfl) (by decide) (ww hw 41 rfl) (ww hw 2 rfl) e63 f58 (rm7_12 l Z a0 hw [] b7 b12 b25 k13 p1 p5 p3 k26 T52.heap n0 Z_6 f59 f60 f61 f55) (st := [(.int 2), (.ref b7)]) rfl 0 rfl (by decide) (pc := 147) (Ls := (lc10 p1 p2 p3 p4 p5 p6 b7 1 1 p1 p5 p3)) hml rfl (lenOf pd_1 rfl) at_147 hby
  obtain ⟨rfl, N65q, e65⟩ := hQ65
  have N66 := Fr.app N64 N65q
  refine own_go (U' := T65.setTop (mkF m 152 (lc10 p1 p2 p3 p4 p5 p6 b7 1 1 p1 p5 p3) [(.int p3), (.int p3)])) (fun t k => oicN X63 hx hby at_141 (teq (rfl : p5 = p5)).2 (oaload X63 hx hby at_144 rfl rfl (oiconst X63 hx hby at_146 (st65 _ (oiload X65 hx hby at_150 rfl k))))) ?_
  refine own_go (U' := T65.setTop (mkF m 160 (lc10 p1 p2 p3 p4 p5 p6 b7 1 1 p1 p5 p3) [(.int 1)])) (fun t k => oicN X65 hx hby at_152 (teq (rfl : p3 = p3)).2 (oiconst X65 hx hby at_155 (ogoto (pc := 156) X65 hx hby at_156 160 (by decide) k))) ?_
  obtain ⟨fs, hr, hrun, hended, hW, hsame⟩ := X65.leave (v := some (.int 1)) (fun h => by rw [Bd.returns] at h; cases h)
  refine own_out ⟨_, _, ?_, hrun, hended, _, _, rfl, ?_, ⟨_, rfl⟩, hW, hsame.mono (by decide) (by decide)⟩
  · exact retN X65 hx (t := .boolean) Bd.returns (by simp) (hb hby at_160) hr
  · exact ⟨rfl, N66⟩
set_option maxRecDepth 65536 in
set_option maxHeartbeats 40000000 in
theorem rm0_19 (l : Launch) (Z : State) (a0 : Array Value) (hw : ∀ d ∈ tables_1, d.before a0 Z = true) (ws : List Jvm.Cond) (p1 : Int32) (p2 : Int32) (p3 : Int32) (p4 : Int32) (p5 : Int32) (p6 : Int32) (h0 : Heap) (n0 : Nat) (Z0 : n0 ≤ h0.size) (hv50 : ((p4 &&& (2147483647 : Int32)) % (3 : Int32)) = (2 : Int32)) (hv51 : (p6 &&& (1 : Int32)) = (0 : Int32)) :
    MetFree l x (head1 (Jvm.Cond.code x code maxLocals ret :: ws) room_1) (fun a U => a = #[(.int p1), (.int p2), (.int p3), (.int p4), (.int p5), (.int p6)] ∧ Z.Warmed39 U.vm ∧ U.heap = h0) (fun _ _ _ _ _ => True) (fun _ U o U' => ∃ v L, o = .returned v ∧ QLaw n0 v U'.heap L ∧ FrameEnd U o U' L room_1.cells room_1.slots) := by
  refine MetFree.of_bodySF (plainFor_of_name pn_com_example_stratafold_stratafold_fhir_IntBlocksGetPinLaw) hisR ?_
  intro p e s m args below meth c s₁ Bd hml0 hP hK
  obtain ⟨rfl, hZ, hh⟩ := hP
  have hx := Bd.exec
  have hby := Bd.bytes
  have hml : c.maxLocals = 12 := hml0
  have hown : s.vm.findClass zs4 = some m.cls := findClass_of_methodNamed Bd.named
  have hnm := (name_of_methodNamed Bd.named Bd.method).1
  have X0 : Stand p l e room_1 s m #[(.int p1), (.int p2), (.int p3), (.int p4), (.int p5), (.int p6)] below meth c s₁ [] 0 0 := Stand.of_body Bd
  have e0 : s₁.heap = h0 := by rw [← hh, Bd.state]; rfl
  have N0 := Fr.nil n0
  refine own_pre (g' := mkF m 0 (lc0 p1 p2 p3 p4 p5 p6) []) (ef_5 m p1 p2 p3 p4 p5 p6) ?_
  obtain ⟨T7, h7, X7, e7, E7, A7, D7, -, st7⟩ := newO X0 hx hZ hown (ww hw 0 rfl) (ww hw 1 rfl) (ww hw 2 rfl) e0 (g := (mkF m 0 (lc0 p1 p2 p3 p4 p5 p6) [])) rfl (hb hby at_0) (by decide) (by decide)
  obtain ⟨b7, g7⟩ : ∃ z, z = h0.size := ⟨_, rfl⟩
  rw [← g7] at A7 D7 st7
  have f8 : Fld Z h7 b7 zs0 "blocks" "[[I" .null := D7 (Or.inl (ww hw 12 rfl)) (ty := (.array (.array .int))) (by decide)
  have f9 : Fld Z h7 b7 zs0 "size" "I" (.int 0) := D7 (Or.inl (ww hw 19 rfl)) (ty := .int) (by decide)
  have g11 : n0 ≤ b7 := Nat.le_trans Z0 (Nat.le_of_eq g7.symm)
  have Z_1 : n0 ≤ h7.size := Nat.le_trans Z0 E7.1
  obtain ⟨_, T10, L10, X10, hQ10, st10⟩ := ocallI X7 hx hZ zm0 rfl hown (ww hw 3 rfl) (ww hw 4 rfl) (by decide) (ww hw 5 rfl) (ww hw 2 rfl) e7 (rm1_0 l Z a0 hw [] b7 h7 n0 Z_1 f8 f9 A7 g11) (st := [(.ref b7), (.ref b7)]) rfl 1 rfl (by decide) (pc := 4) (Ls := (lc0 p1 p2 p3 p4 p5 p6)) hml rfl (lenOf pd_0 rfl) at_4 hby
  obtain ⟨b12, k13, rfl, N10q, K10, sz14, O15, f16, f17, f18, f19⟩ := hQ10
  have N20 := Fr.app N0 N10q
  have f22 : Exa Z T10.heap b7 zs0 := (A7.keep K10)
  have g23 : n0 ≤ b12 := Nat.le_trans Z_1 sz14
  have ne24 : b7 ≠ b12 := Nat.ne_of_lt (Nat.lt_of_lt_of_le (f8.lt) sz14)
  have Z_2 : n0 ≤ T10.heap.size := Nat.le_trans Z_1 K10.1
  obtain ⟨_, T21, L21, X21, hQ21, st21⟩ := ocallV X10 hx hZ zm1 zm1 hown (ww hw 13 rfl) (ww hw 14 rfl) (notFace_of_selects (args := #[]) (mvT hZ (ww hw 16 rfl))) (ww hw 16 rfl) (ww hw 15 rfl) (by decide) (ww hw 17 rfl) (ww hw 2 rfl) rfl f22 (rm3_1 l Z a0 hw [] b7 p1 b12 k13 T10.heap n0 Z_2 f17 f16 f19 O15 g23 ne24 f22 g11) (st := [(.int p1), (.ref b7)]) rfl 0 rfl (by decide) (pc := 12) (Ls := (lc2 p1 p2 p3 p4 p5 p6 b7)) hml rfl (lenOf pd_1 rfl) at_12 hby
  obtain ⟨b25, k26, rfl, N21q, K21, sz27, f28, f29, f30, f31, f32⟩ := hQ21
  have N33 := Fr.app N20 N21q
  have f35 : Exa Z T21.heap b7 zs0 := (f22.keep K21)
  have g36 : n0 ≤ b25 := Nat.le_trans Z_2 sz27
  have ne37 : b7 ≠ b25 := Nat.ne_of_lt (Nat.lt_of_lt_of_le (Nat.lt_of_lt_of_le (f8.lt) K10.1) sz27)
  have Z_3 : n0 ≤ T21.heap.size := Nat.le_trans Z_2 K21.1
  obtain ⟨_, T34, L34, X34, hQ34, st34⟩ := ocallV X21 hx hZ zm1 zm1 hown (ww hw 13 rfl) (ww hw 14 rfl) (notFace_of_selects (args := #[]) (mvT hZ (ww hw 16 rfl))) (ww hw 16 rfl) (ww hw 15 rfl) (by decide) (ww hw 17 rfl) (ww hw 2 rfl) rfl f35 (rm3_2 l Z a0 hw [] b7 p2 b12 b25 k13 p1 k26 T21.heap n0 Z_3 f29 f30 f28 f32 g36 ne37 f35 g11) (st := [(.int p2), (.ref b7)]) rfl 0 rfl (by decide) (pc := 19) (Ls := (lc2 p1 p2 p3 p4 p5 p6 b7)) hml rfl (lenOf pd_1 rfl) at_19 hby
  obtain ⟨rfl, N34q, K34, f38, f39, f40⟩ := hQ34
  have N41 := Fr.app N33 N34q
  have f43 : Exa Z T34.heap b7 zs0 := (f35.keep K34)
  have ne44 : b12 ≠ b25 := Nat.ne_of_lt (Nat.lt_of_lt_of_le (f18.lt) sz27)
  have f45 : Arv Z T34.heap b12 k13 (.array .int) (16 : Int32) [(.ref b25)] .null := (f28.keep K34 (ninS ne44 (ninS (Ne.symm ne24) nin0)))
  have Z_4 : n0 ≤ T34.heap.size := Nat.le_trans Z_3 K34.1
  obtain ⟨_, T42, L42, X42, hQ42, st42⟩ := ocallV X34 hx hZ zm1 zm1 hown (ww hw 13 rfl) (ww hw 14 rfl) (notFace_of_selects (args := #[]) (mvT hZ (ww hw 16 rfl))) (ww hw 16 rfl) (ww hw 15 rfl) (by decide) (ww hw 17 rfl) (ww hw 2 rfl) rfl f43 (rm3_3 l Z a0 hw [] b7 p3 b12 b25 k13 p1 p2 k26 T34.heap n0 Z_4 f39 f40 f45 f38 g36 ne37 f43 g11) (st := [(.int p3), (.ref b7)]) rfl 0 rfl (by decide) (pc := 26) (Ls := (lc2 p1 p2 p3 p4 p5 p6 b7)) hml rfl (lenOf pd_1 rfl) at_26 hby
  obtain ⟨rfl, N42q, K42, f46, f47, f48⟩ := hQ42
  have N49 := Fr.app N41 N42q
  refine own_go (U' := T42.setTop (mkF m 36 (lc2 p1 p2 p3 p4 p5 p6 b7) [(.int ((p4 &&& (2147483647 : Int32)) % (3 : Int32)))])) (fun t k => st7 _ (odup X7 hx hby at_3 rfl (st10 _ (oastore X10 hx hby at_7 (lc2 p1 p2 p3 p4 p5 p6 b7) rfl rfl (oaload X10 hx hby at_9 rfl rfl (oiloadN X10 hx hby at_11 rfl (st21 _ (opop X21 hx hby at_15 rfl (oaload X21 hx hby at_16 rfl rfl (oiloadN X21 hx hby at_18 rfl (st34 _ (opop X34 hx hby at_22 rfl (oaload X34 hx hby at_23 rfl rfl (oiloadN X34 hx hby at_25 rfl (st42 _ (opop X42 hx hby at_29 rfl (oiloadN X42 hx hby at_30 rfl (X42.ldcInt hx hown (mvT hZ (ww hw 23 rfl)) (g := (mkF m 31 (lc2 p1 p2 p3 p4 p5 p6 b7) [(.int p4)])) rfl (hb hby at_31) _ (oiand X42 hx hby at_33 (oiconst X42 hx hby at_34 (oirem X42 hx hby at_35 (by decide) k))))))))))))))))))))) ?_
  rw [hv50]
  refine own_go (U' := T42.setTop (mkF m 42 (lc6 p1 p2 p3 p4 p5 p6 b7 2) [(.int (p6 &&& (1 : Int32)))])) (fun t k => oistore X42 hx hby at_36 (lc6 p1 p2 p3 p4 p5 p6 b7 2) rfl (oiload X42 hx hby at_38 rfl (oiconst X42 hx hby at_40 (oiand X42 hx hby at_41 k)))) ?_
  rw [hv51]
  refine own_go (U' := T42.setTop (mkF m 54 (lc7 p1 p2 p3 p4 p5 p6 b7 2 0) [(.int 0)])) (fun t k => oifY (pc := 42) X42 hx hby at_42 49 (by decide) (by decide) (oiconst X42 hx hby at_49 (oistore X42 hx hby at_50 (lc7 p1 p2 p3 p4 p5 p6 b7 2 0) rfl (oiload X42 hx hby at_52 rfl k)))) ?_
  refine own_go (U' := T42.setTop (mkF m 68 (lc7 p1 p2 p3 p4 p5 p6 b7 2 0) [(.int 0)])) (fun t k => oifY (pc := 54) X42 hx hby at_54 66 (by decide) (by decide) (oiload X42 hx hby at_66 rfl k)) ?_
  refine own_go (U' := T42.setTop (mkF m 86 (lc8 p1 p2 p3 p4 p5 p6 b7 2 0 p1) [(.int 0)])) (fun t k => oifY (pc := 68) X42 hx hby at_68 81 (by decide) (by decide) (oiloadN X42 hx hby at_81 rfl (oistore X42 hx hby at_82 (lc8 p1 p2 p3 p4 p5 p6 b7 2 0 p1) rfl (oiload X42 hx hby at_84 rfl k)))) ?_
  refine own_go (U' := T42.setTop (mkF m 105 (lc9 p1 p2 p3 p4 p5 p6 b7 2 0 p1 p2) [(.int 0)])) (fun t k => oifY (pc := 86) X42 hx hby at_86 100 (by decide) (by decide) (oiloadN X42 hx hby at_100 rfl (oistore X42 hx hby at_101 (lc9 p1 p2 p3 p4 p5 p6 b7 2 0 p1 p2) rfl (oiload X42 hx hby at_103 rfl k)))) ?_
  have f53 : Exa Z T42.heap b7 zs0 := (f43.keep K42)
  have f54 : Arv Z T42.heap b12 k13 (.array .int) (16 : Int32) [(.ref b25)] .null := (f45.keep K42 (ninS ne44 (ninS (Ne.symm ne24) nin0)))
  have Z_5 : n0 ≤ T42.heap.size := Nat.le_trans Z_4 K42.1
  obtain ⟨_, T52, L52, X52, hQ52, st52⟩ := ocallV X42 hx hZ zm4 zm4 hown (ww hw 37 rfl) (ww hw 38 rfl) (notFace_of_selects (args := #[]) (mvT hZ (ww hw 40 rfl))) (ww hw 40 rfl) (ww hw 39 rfl) (by decide) (ww hw 41 rfl) (ww hw 2 rfl) rfl f53 (rm7_6 l Z a0 hw [] b7 b12 b25 k13 p1 p2 p3 k26 T42.heap n0 Z_5 f47 f48 f54 f46) (st := [(.int 0), (.ref b7)]) rfl 0 rfl (by decide) (pc := 125) (Ls := (lc10 p1 p2 p3 p4 p5 p6 b7 2 0 p1 p2 p3)) hml rfl (lenOf pd_1 rfl) at_125 hby
  obtain ⟨rfl, N52q, e52⟩ := hQ52
  have N55 := Fr.app N49 N52q
  refine own_go (U' := T52.setTop (mkF m 130 (lc10 p1 p2 p3 p4 p5 p6 b7 2 0 p1 p2 p3) [(.int p1), (.int p1)])) (fun t k => oifY (pc := 105) X42 hx hby at_105 119 (by decide) (by decide) (oiloadN X42 hx hby at_119 rfl (oistore X42 hx hby at_120 (lc10 p1 p2 p3 p4 p5 p6 b7 2 0 p1 p2 p3) rfl (oaload X42 hx hby at_122 rfl rfl (oiconst X42 hx hby at_124 (st52 _ (oiload X52 hx hby at_128 rfl k))))))) ?_
  obtain ⟨_, T56, L56, X56, hQ56, st56⟩ := ocallV X52 hx hZ zm4 zm4 hown (ww hw 37 rfl) (ww hw 38 rfl) (notFace_of_selects (args := #[]) (mvT hZ (ww hw 40 rfl))) (ww hw 40 rfl) (ww hw 39 rfl) (by decide) (ww hw 41 rfl) (ww hw 2 rfl) e52 f53 (rm7_9 l Z a0 hw [] b7 b12 b25 k13 p1 p2 p3 k26 T42.heap n0 Z_5 f47 f48 f54 f46) (st := [(.int 1), (.ref b7)]) rfl 0 rfl (by decide) (pc := 136) (Ls := (lc10 p1 p2 p3 p4 p5 p6 b7 2 0 p1 p2 p3)) hml rfl (lenOf pd_1 rfl) at_136 hby
  obtain ⟨rfl, N56q, e56⟩ := hQ56
  have N57 := Fr.app N55 N56q
  refine own_go (U' := T56.setTop (mkF m 141 (lc10 p1 p2 p3 p4 p5 p6 b7 2 0 p1 p2 p3) [(.int p2), (.int p2)])) (fun t k => oicN X52 hx hby at_130 (teq (rfl : p1 = p1)).2 (oaload X52 hx hby at_133 rfl rfl (oiconst X52 hx hby at_135 (st56 _ (oiload X56 hx hby at_139 rfl k))))) ?_
  obtain ⟨_, T58, L58, X58, hQ58, st58⟩ := ocallV X56 hx hZ zm4 zm4 hown (ww hw 37 rfl) (ww hw 38 rfl) (notFace_of_selects (args := #[]) (mvT hZ (ww hw 40 rfl))) (ww hw 40 rfl) (ww hw 39 rfl) (by decide) (ww hw 41 rfl) (ww hw 2 rfl) e56 f53 (rm7_12 l Z a0 hw [] b7 b12 b25 k13 p1 p2 p3 k26 T42.heap n0 Z_5 f47 f48 f54 f46) (st := [(.int 2), (.ref b7)]) rfl 0 rfl (by decide) (pc := 147) (Ls := (lc10 p1 p2 p3 p4 p5 p6 b7 2 0 p1 p2 p3)) hml rfl (lenOf pd_1 rfl) at_147 hby
  obtain ⟨rfl, N58q, e58⟩ := hQ58
  have N59 := Fr.app N57 N58q
  refine own_go (U' := T58.setTop (mkF m 152 (lc10 p1 p2 p3 p4 p5 p6 b7 2 0 p1 p2 p3) [(.int p3), (.int p3)])) (fun t k => oicN X56 hx hby at_141 (teq (rfl : p2 = p2)).2 (oaload X56 hx hby at_144 rfl rfl (oiconst X56 hx hby at_146 (st58 _ (oiload X58 hx hby at_150 rfl k))))) ?_
  refine own_go (U' := T58.setTop (mkF m 160 (lc10 p1 p2 p3 p4 p5 p6 b7 2 0 p1 p2 p3) [(.int 1)])) (fun t k => oicN X58 hx hby at_152 (teq (rfl : p3 = p3)).2 (oiconst X58 hx hby at_155 (ogoto (pc := 156) X58 hx hby at_156 160 (by decide) k))) ?_
  obtain ⟨fs, hr, hrun, hended, hW, hsame⟩ := X58.leave (v := some (.int 1)) (fun h => by rw [Bd.returns] at h; cases h)
  refine own_out ⟨_, _, ?_, hrun, hended, _, _, rfl, ?_, ⟨_, rfl⟩, hW, hsame.mono (by decide) (by decide)⟩
  · exact retN X58 hx (t := .boolean) Bd.returns (by simp) (hb hby at_160) hr
  · exact ⟨rfl, N59⟩
def Q4_20 (Z : State) (a1 : Addr) (p2 : Int32) (a7 : Addr) (a10 : Addr) (kc11 : ClassId) (p15 : Int32) (p16 : Int32) (p17 : Int32) (kc18 : ClassId) (h0 : Heap) (n0 : Nat) (v : Option Value) (h : Heap) (L : List Loc) : Prop := v = none ∧ Fr n0 L ∧ Keep h0 h [a10] ∧ Arv Z h a10 kc18 .int (16 : Int32) [(.int p15), (.int p16), (.int p2)] (.int (0 : Int32))
set_option maxRecDepth 65536 in
set_option maxHeartbeats 40000000 in
theorem rm4_20 (l : Launch) (Z : State) (a0 : Array Value) (hw : ∀ d ∈ tables_1, d.before a0 Z = true) (ws : List Jvm.Cond) (a1 : Addr) (p2 : Int32) (a7 : Addr) (a10 : Addr) (kc11 : ClassId) (p15 : Int32) (p16 : Int32) (p17 : Int32) (kc18 : ClassId) (h0 : Heap) (n0 : Nat) (Z0 : n0 ≤ h0.size) (F3 : Fld Z h0 a1 zs0 "size" "I" (.int 3)) (F8 : Fld Z h0 a1 zs0 "blocks" "[[I" (.ref a7)) (F12 : Arv Z h0 a7 kc11 (.array .int) (16 : Int32) [(.ref a10)] .null) (F19 : Arv Z h0 a10 kc18 .int (16 : Int32) [(.int p15), (.int p16), (.int p17)] (.int (0 : Int32))) (g22 : n0 ≤ a10) :
    MetFree l zm5 (head1 (Jvm.Cond.code zm5 prog_21_method_5_code 3 none :: ws) ({ frames := 2, cells := 0, slots := 0, locals := 27 } : Room)) (fun a U => a = #[(.ref a1), (.int 2), (.int p2)] ∧ Z.Warmed39 U.vm ∧ U.heap = h0) (fun _ _ _ _ _ => True) (fun _ U o U' => ∃ v L, o = .returned v ∧ Q4_20 Z a1 p2 a7 a10 kc11 p15 p16 p17 kc18 h0 n0 v U'.heap L ∧ FrameEnd U o U' L ({ frames := 2, cells := 0, slots := 0, locals := 27 } : Room).cells ({ frames := 2, cells := 0, slots := 0, locals := 27 } : Room).slots) := by
  refine MetFree.of_bodySF (plainFor_of_name pn_com_example_stratafold_stratafold_fhir_IntBlocks) hisR ?_
  intro p e s m args below meth c s₁ Bd hml0 hP hK
  obtain ⟨rfl, hZ, hh⟩ := hP
  have hx := Bd.exec
  have hby := Bd.bytes
  have hml : c.maxLocals = 3 := hml0
  have hown : s.vm.findClass zs0 = some m.cls := findClass_of_methodNamed Bd.named
  have hnm := (name_of_methodNamed Bd.named Bd.method).1
  have X0 : Stand p l e ({ frames := 2, cells := 0, slots := 0, locals := 27 } : Room) s m #[(.ref a1), (.int 2), (.int p2)] below meth c s₁ [] 0 0 := Stand.of_body Bd
  have e0 : s₁.heap = h0 := by rw [← hh, Bd.state]; rfl
  have N0 := Fr.nil n0
  refine own_pre (g' := mkF m 0 (lc14 a1 2 p2) []) (ef_6 m a1 (2 : Int32) p2) ?_
  obtain ⟨T4, X4, e4, st4⟩ := getF X0 hx hZ hown (host := "") (Or.inl (ww hw 18 rfl)) Via.refl e0 F3 (g := (mkF m 2 (lc14 a1 2 p2) [(.ref a1), (.int 2)])) rfl rfl (hb hby d4_2)
  obtain ⟨_, T5, L5, X5, hQ5, st5⟩ := ocallS X4 hx hZ zm3 hown (ww hw 29 rfl) (ww hw 30 rfl) (by decide) (ww hw 32 rfl) (ww hw 31 rfl) e4 (rm5_11 l Z a0 hw []  h0 n0 Z0 ) (st := [(.int 3), (.int 2)]) rfl 0 rfl (by decide) (pc := 5) (Ls := (lc14 a1 2 p2)) hml rfl (lenOf pd_3 rfl) d4_5 hby
  obtain ⟨rfl, N5q, e5⟩ := hQ5
  have N6 := Fr.app N0 N5q
  obtain ⟨T9, X9, e9, st9⟩ := getF X5 hx hZ hown (host := "") (Or.inl (ww hw 11 rfl)) Via.refl e5 F8 (g := (mkF m 10 (lc14 a1 2 p2) [(.ref a1)])) rfl rfl (hb hby d4_10)
  obtain ⟨cl13, Ar13, q13, S13, N13, H13, G13⟩ := id F12
  have hin14 : ¬ ((0 : Int32) < 0 ∨ cl13.slots.size ≤ ((0 : Int32)).toNatClampNeg) := inb_of S13 ⟨by decide, by decide⟩
  have hat14 : cl13.slots[((0 : Int32)).toNatClampNeg]? = some (.ref a10) := Has.at H13 hin14 rfl
  obtain ⟨cl20, Ar20, q20, S20, N20, H20, G20⟩ := id F19
  have hin21 : ¬ ((2 : Int32) < 0 ∨ cl20.slots.size ≤ ((2 : Int32)).toNatClampNeg) := inb_of S20 ⟨by decide, by decide⟩
  obtain ⟨T21, h21, X21, e21, W21, st21⟩ := stI X9 hx hZ e9 Ar20 (j := (2 : Int32)) hin21 (g := (mkF m 24 (lc14 a1 2 p2) [(.int p2), (.int 2), (.ref a10)])) rfl rfl (hb hby d4_24)
  have N23 := Fr.snoc X21 N6 g22
  have f24 : Arv Z h21 a10 kc18 .int (16 : Int32) [(.int p15), (.int p16), (.int p2)] (.int (0 : Int32)) := Arv.set Ar20 q20 S20 N20 H20 G20 (by rfl) W21 2 rfl (Nat.le_of_ble_eq_true rfl)
  refine own_go (U' := T21.setTop (mkF m 25 (lc14 a1 2 p2) [])) (fun t k => oiloadN X0 hx hby d4_0 rfl (oaloadN X0 hx hby d4_1 rfl rfl (st4 _ (st5 _ (opop X5 hx hby d4_8 rfl (oaloadN X5 hx hby d4_9 rfl rfl (st9 _ (oiloadN X9 hx hby d4_13 rfl (obipush X9 hx hby d4_14 (oiushr X9 hx hby d4_16 (X9.aaload hx (j := (0 : Int32)) (v := (.ref a10)) (by rw [e9]; exact Ar13.1) (State.isArrayOf_alike hZ.alike Ar13.2.1) rfl Ar13.2.2 hin14 hat14 (g := (mkF m 17 (lc14 a1 2 p2) [(.int 0), (.ref a7)])) rfl rfl (hb hby d4_17) _ (oiloadN X9 hx hby d4_18 rfl (osipush X9 hx hby d4_19 (oiand X9 hx hby d4_22 (oiloadN X9 hx hby d4_23 rfl (st21 _ k)))))))))))))))) ?_
  obtain ⟨fs, hr, hrun, hended, hW, hsame⟩ := X21.leave (v := none) (fun _ => rfl)
  refine own_out ⟨_, _, ?_, hrun, hended, _, _, rfl, ?_, ⟨_, rfl⟩, hW, hsame.mono (by decide) (by decide)⟩
  · exact X21.returnOut hx Bd.returns (hb hby d4_25) hr
  · show Q4_20 Z a1 p2 a7 a10 kc11 p15 p16 p17 kc18 h0 n0 _ T21.heap _
    rw [e21]
    exact ⟨rfl, N23, ((Keep.refl h0 [a10]).wr W21 (Or.inl (List.mem_of_getElem? (i := 0) rfl))), f24⟩
set_option maxRecDepth 65536 in
set_option maxHeartbeats 40000000 in
theorem rm0_21 (l : Launch) (Z : State) (a0 : Array Value) (hw : ∀ d ∈ tables_1, d.before a0 Z = true) (ws : List Jvm.Cond) (p1 : Int32) (p2 : Int32) (p3 : Int32) (p4 : Int32) (p5 : Int32) (p6 : Int32) (h0 : Heap) (n0 : Nat) (Z0 : n0 ≤ h0.size) (hv50 : ((p4 &&& (2147483647 : Int32)) % (3 : Int32)) = (2 : Int32)) (hv51 : (p6 &&& (1 : Int32)) = (1 : Int32)) :
    MetFree l x (head1 (Jvm.Cond.code x code maxLocals ret :: ws) room_1) (fun a U => a = #[(.int p1), (.int p2), (.int p3), (.int p4), (.int p5), (.int p6)] ∧ Z.Warmed39 U.vm ∧ U.heap = h0) (fun _ _ _ _ _ => True) (fun _ U o U' => ∃ v L, o = .returned v ∧ QLaw n0 v U'.heap L ∧ FrameEnd U o U' L room_1.cells room_1.slots) := by
  refine MetFree.of_bodySF (plainFor_of_name pn_com_example_stratafold_stratafold_fhir_IntBlocksGetPinLaw) hisR ?_
  intro p e s m args below meth c s₁ Bd hml0 hP hK
  obtain ⟨rfl, hZ, hh⟩ := hP
  have hx := Bd.exec
  have hby := Bd.bytes
  have hml : c.maxLocals = 12 := hml0
  have hown : s.vm.findClass zs4 = some m.cls := findClass_of_methodNamed Bd.named
  have hnm := (name_of_methodNamed Bd.named Bd.method).1
  have X0 : Stand p l e room_1 s m #[(.int p1), (.int p2), (.int p3), (.int p4), (.int p5), (.int p6)] below meth c s₁ [] 0 0 := Stand.of_body Bd
  have e0 : s₁.heap = h0 := by rw [← hh, Bd.state]; rfl
  have N0 := Fr.nil n0
  refine own_pre (g' := mkF m 0 (lc0 p1 p2 p3 p4 p5 p6) []) (ef_5 m p1 p2 p3 p4 p5 p6) ?_
  obtain ⟨T7, h7, X7, e7, E7, A7, D7, -, st7⟩ := newO X0 hx hZ hown (ww hw 0 rfl) (ww hw 1 rfl) (ww hw 2 rfl) e0 (g := (mkF m 0 (lc0 p1 p2 p3 p4 p5 p6) [])) rfl (hb hby at_0) (by decide) (by decide)
  obtain ⟨b7, g7⟩ : ∃ z, z = h0.size := ⟨_, rfl⟩
  rw [← g7] at A7 D7 st7
  have f8 : Fld Z h7 b7 zs0 "blocks" "[[I" .null := D7 (Or.inl (ww hw 12 rfl)) (ty := (.array (.array .int))) (by decide)
  have f9 : Fld Z h7 b7 zs0 "size" "I" (.int 0) := D7 (Or.inl (ww hw 19 rfl)) (ty := .int) (by decide)
  have g11 : n0 ≤ b7 := Nat.le_trans Z0 (Nat.le_of_eq g7.symm)
  have Z_1 : n0 ≤ h7.size := Nat.le_trans Z0 E7.1
  obtain ⟨_, T10, L10, X10, hQ10, st10⟩ := ocallI X7 hx hZ zm0 rfl hown (ww hw 3 rfl) (ww hw 4 rfl) (by decide) (ww hw 5 rfl) (ww hw 2 rfl) e7 (rm1_0 l Z a0 hw [] b7 h7 n0 Z_1 f8 f9 A7 g11) (st := [(.ref b7), (.ref b7)]) rfl 1 rfl (by decide) (pc := 4) (Ls := (lc0 p1 p2 p3 p4 p5 p6)) hml rfl (lenOf pd_0 rfl) at_4 hby
  obtain ⟨b12, k13, rfl, N10q, K10, sz14, O15, f16, f17, f18, f19⟩ := hQ10
  have N20 := Fr.app N0 N10q
  have f22 : Exa Z T10.heap b7 zs0 := (A7.keep K10)
  have g23 : n0 ≤ b12 := Nat.le_trans Z_1 sz14
  have ne24 : b7 ≠ b12 := Nat.ne_of_lt (Nat.lt_of_lt_of_le (f8.lt) sz14)
  have Z_2 : n0 ≤ T10.heap.size := Nat.le_trans Z_1 K10.1
  obtain ⟨_, T21, L21, X21, hQ21, st21⟩ := ocallV X10 hx hZ zm1 zm1 hown (ww hw 13 rfl) (ww hw 14 rfl) (notFace_of_selects (args := #[]) (mvT hZ (ww hw 16 rfl))) (ww hw 16 rfl) (ww hw 15 rfl) (by decide) (ww hw 17 rfl) (ww hw 2 rfl) rfl f22 (rm3_1 l Z a0 hw [] b7 p1 b12 k13 T10.heap n0 Z_2 f17 f16 f19 O15 g23 ne24 f22 g11) (st := [(.int p1), (.ref b7)]) rfl 0 rfl (by decide) (pc := 12) (Ls := (lc2 p1 p2 p3 p4 p5 p6 b7)) hml rfl (lenOf pd_1 rfl) at_12 hby
  obtain ⟨b25, k26, rfl, N21q, K21, sz27, f28, f29, f30, f31, f32⟩ := hQ21
  have N33 := Fr.app N20 N21q
  have f35 : Exa Z T21.heap b7 zs0 := (f22.keep K21)
  have g36 : n0 ≤ b25 := Nat.le_trans Z_2 sz27
  have ne37 : b7 ≠ b25 := Nat.ne_of_lt (Nat.lt_of_lt_of_le (Nat.lt_of_lt_of_le (f8.lt) K10.1) sz27)
  have Z_3 : n0 ≤ T21.heap.size := Nat.le_trans Z_2 K21.1
  obtain ⟨_, T34, L34, X34, hQ34, st34⟩ := ocallV X21 hx hZ zm1 zm1 hown (ww hw 13 rfl) (ww hw 14 rfl) (notFace_of_selects (args := #[]) (mvT hZ (ww hw 16 rfl))) (ww hw 16 rfl) (ww hw 15 rfl) (by decide) (ww hw 17 rfl) (ww hw 2 rfl) rfl f35 (rm3_2 l Z a0 hw [] b7 p2 b12 b25 k13 p1 k26 T21.heap n0 Z_3 f29 f30 f28 f32 g36 ne37 f35 g11) (st := [(.int p2), (.ref b7)]) rfl 0 rfl (by decide) (pc := 19) (Ls := (lc2 p1 p2 p3 p4 p5 p6 b7)) hml rfl (lenOf pd_1 rfl) at_19 hby
  obtain ⟨rfl, N34q, K34, f38, f39, f40⟩ := hQ34
  have N41 := Fr.app N33 N34q
  have f43 : Exa Z T34.heap b7 zs0 := (f35.keep K34)
  have ne44 : b12 ≠ b25 := Nat.ne_of_lt (Nat.lt_of_lt_of_le (f18.lt) sz27)
  have f45 : Arv Z T34.heap b12 k13 (.array .int) (16 : Int32) [(.ref b25)] .null := (f28.keep K34 (ninS ne44 (ninS (Ne.symm ne24) nin0)))
  have Z_4 : n0 ≤ T34.heap.size := Nat.le_trans Z_3 K34.1
  obtain ⟨_, T42, L42, X42, hQ42, st42⟩ := ocallV X34 hx hZ zm1 zm1 hown (ww hw 13 rfl) (ww hw 14 rfl) (notFace_of_selects (args := #[]) (mvT hZ (ww hw 16 rfl))) (ww hw 16 rfl) (ww hw 15 rfl) (by decide) (ww hw 17 rfl) (ww hw 2 rfl) rfl f43 (rm3_3 l Z a0 hw [] b7 p3 b12 b25 k13 p1 p2 k26 T34.heap n0 Z_4 f39 f40 f45 f38 g36 ne37 f43 g11) (st := [(.int p3), (.ref b7)]) rfl 0 rfl (by decide) (pc := 26) (Ls := (lc2 p1 p2 p3 p4 p5 p6 b7)) hml rfl (lenOf pd_1 rfl) at_26 hby
  obtain ⟨rfl, N42q, K42, f46, f47, f48⟩ := hQ42
  have N49 := Fr.app N41 N42q
  refine own_go (U' := T42.setTop (mkF m 36 (lc2 p1 p2 p3 p4 p5 p6 b7) [(.int ((p4 &&& (2147483647 : Int32)) % (3 : Int32)))])) (fun t k => st7 _ (odup X7 hx hby at_3 rfl (st10 _ (oastore X10 hx hby at_7 (lc2 p1 p2 p3 p4 p5 p6 b7) rfl rfl (oaload X10 hx hby at_9 rfl rfl (oiloadN X10 hx hby at_11 rfl (st21 _ (opop X21 hx hby at_15 rfl (oaload X21 hx hby at_16 rfl rfl (oiloadN X21 hx hby at_18 rfl (st34 _ (opop X34 hx hby at_22 rfl (oaload X34 hx hby at_23 rfl rfl (oiloadN X34 hx hby at_25 rfl (st42 _ (opop X42 hx hby at_29 rfl (oiloadN X42 hx hby at_30 rfl (X42.ldcInt hx hown (mvT hZ (ww hw 23 rfl)) (g := (mkF m 31 (lc2 p1 p2 p3 p4 p5 p6 b7) [(.int p4)])) rfl (hb hby at_31) _ (oiand X42 hx hby at_33 (oiconst X42 hx hby at_34 (oirem X42 hx hby at_35 (by decide) k))))))))))))))))))))) ?_
  rw [hv50]
  refine own_go (U' := T42.setTop (mkF m 42 (lc6 p1 p2 p3 p4 p5 p6 b7 2) [(.int (p6 &&& (1 : Int32)))])) (fun t k => oistore X42 hx hby at_36 (lc6 p1 p2 p3 p4 p5 p6 b7 2) rfl (oiload X42 hx hby at_38 rfl (oiconst X42 hx hby at_40 (oiand X42 hx hby at_41 k)))) ?_
  rw [hv51]
  refine own_go (U' := T42.setTop (mkF m 54 (lc7 p1 p2 p3 p4 p5 p6 b7 2 1) [(.int 1)])) (fun t k => oifN X42 hx hby at_42 (by decide) (oiconst X42 hx hby at_45 (ogoto (pc := 46) X42 hx hby at_46 50 (by decide) (oistore X42 hx hby at_50 (lc7 p1 p2 p3 p4 p5 p6 b7 2 1) rfl (oiload X42 hx hby at_52 rfl k))))) ?_
  have f53 : Exa Z T42.heap b7 zs0 := (f43.keep K42)
  have f54 : Arv Z T42.heap b12 k13 (.array .int) (16 : Int32) [(.ref b25)] .null := (f45.keep K42 (ninS ne44 (ninS (Ne.symm ne24) nin0)))
  have Z_5 : n0 ≤ T42.heap.size := Nat.le_trans Z_4 K42.1
  obtain ⟨_, T52, L52, X52, hQ52, st52⟩ := ocallV X42 hx hZ zm5 zm5 hown (ww hw 24 rfl) (ww hw 25 rfl) (notFace_of_selects (args := #[]) (mvT hZ (ww hw 27 rfl))) (ww hw 27 rfl) (ww hw 26 rfl) (by decide) (ww hw 28 rfl) (ww hw 2 rfl) rfl f53 (rm4_20 l Z a0 hw [] b7 p5 b12 b25 k13 p1 p2 p3 k26 T42.heap n0 Z_5 f47 f48 f54 f46 g36) (st := [(.int p5), (.int 2), (.ref b7)]) rfl 0 rfl (by decide) (pc := 63) (Ls := (lc7 p1 p2 p3 p4 p5 p6 b7 2 1)) hml rfl (lenOf pd_4 rfl) at_63 hby
  obtain ⟨rfl, N52q, K52, f55⟩ := hQ52
  have N56 := Fr.app N49 N52q
  refine own_go (U' := T52.setTop (mkF m 68 (lc7 p1 p2 p3 p4 p5 p6 b7 2 1) [(.int 1)])) (fun t k => oifN X42 hx hby at_54 (by decide) (oaload X42 hx hby at_57 rfl rfl (oiload X42 hx hby at_59 rfl (oiload X42 hx hby at_61 rfl (st52 _ (oiload X52 hx hby at_66 rfl k)))))) ?_
  refine own_go (U' := T52.setTop (mkF m 73 (lc7 p1 p2 p3 p4 p5 p6 b7 2 1) [(.int 2)])) (fun t k => oifN X52 hx hby at_68 (by decide) (oiload X52 hx hby at_71 rfl k)) ?_
  refine own_go (U' := T52.setTop (mkF m 86 (lc8 p1 p2 p3 p4 p5 p6 b7 2 1 p1) [(.int 1)])) (fun t k => oifY (pc := 73) X52 hx hby at_73 81 (by decide) (by decide) (oiloadN X52 hx hby at_81 rfl (oistore X52 hx hby at_82 (lc8 p1 p2 p3 p4 p5 p6 b7 2 1 p1) rfl (oiload X52 hx hby at_84 rfl k)))) ?_
  refine own_go (U' := T52.setTop (mkF m 92 (lc8 p1 p2 p3 p4 p5 p6 b7 2 1 p1) [(.int 1), (.int 2)])) (fun t k => oifN X52 hx hby at_86 (by decide) (oiload X52 hx hby at_89 rfl (oiconst X52 hx hby at_91 k))) ?_
  refine own_go (U' := T52.setTop (mkF m 105 (lc9 p1 p2 p3 p4 p5 p6 b7 2 1 p1 p2) [(.int 1)])) (fun t k => oicY (pc := 92) X52 hx hby at_92 100 (by decide) (by decide) (oiloadN X52 hx hby at_100 rfl (oistore X52 hx hby at_101 (lc9 p1 p2 p3 p4 p5 p6 b7 2 1 p1 p2) rfl (oiload X52 hx hby at_103 rfl k)))) ?_
  refine own_go (U' := T52.setTop (mkF m 111 (lc9 p1 p2 p3 p4 p5 p6 b7 2 1 p1 p2) [(.int 2), (.int 2)])) (fun t k => oifN X52 hx hby at_105 (by decide) (oiload X52 hx hby at_108 rfl (oiconst X52 hx hby at_110 k))) ?_
  have f58 : Exa Z T52.heap b7 zs0 := (f53.keep K52)
  have f59 : Fld Z T52.heap b7 zs0 "size" "I" (.int 3) := (f47.keep K52 (ninS ne37 nin0))
  have f60 : Fld Z T52.heap b7 zs0 "blocks" "[[I" (.ref b12) := (f48.keep K52 (ninS ne37 nin0))
  have f61 : Arv Z T52.heap b12 k13 (.array .int) (16 : Int32) [(.ref b25)] .null := (f54.keep K52 (ninS ne44 nin0))
  have Z_6 : n0 ≤ T52.heap.size := Nat.le_trans Z_5 K52.1
  obtain ⟨_, T57, L57, X57, hQ57, st57⟩ := ocallV X52 hx hZ zm4 zm4 hown (ww hw 37 rfl) (ww hw 38 rfl) (notFace_of_selects (args := #[]) (mvT hZ (ww hw 40 rfl))) (ww hw 40 rfl) (ww hw 39 rfl) (by decide) (ww hw 41 rfl) (ww hw 2 rfl) rfl f58 (rm7_6 l Z a0 hw [] b7 b12 b25 k13 p1 p2 p5 k26 T52.heap n0 Z_6 f59 f60 f61 f55) (st := [(.int 0), (.ref b7)]) rfl 0 rfl (by decide) (pc := 125) (Ls := (lc10 p1 p2 p3 p4 p5 p6 b7 2 1 p1 p2 p5)) hml rfl (lenOf pd_1 rfl) at_125 hby
  obtain ⟨rfl, N57q, e57⟩ := hQ57
  have N62 := Fr.app N56 N57q
  refine own_go (U' := T57.setTop (mkF m 130 (lc10 p1 p2 p3 p4 p5 p6 b7 2 1 p1 p2 p5) [(.int p1), (.int p1)])) (fun t k => oicN X52 hx hby at_111 (by decide) (oiload X52 hx hby at_114 rfl (ogoto (pc := 116) X52 hx hby at_116 120 (by decide) (oistore X52 hx hby at_120 (lc10 p1 p2 p3 p4 p5 p6 b7 2 1 p1 p2 p5) rfl (oaload X52 hx hby at_122 rfl rfl (oiconst X52 hx hby at_124 (st57 _ (oiload X57 hx hby at_128 rfl k)))))))) ?_
  obtain ⟨_, T63, L63, X63, hQ63, st63⟩ := ocallV X57 hx hZ zm4 zm4 hown (ww hw 37 rfl) (ww hw 38 rfl) (notFace_of_selects (args := #[]) (mvT hZ (ww hw 40 rfl))) (ww hw 40 rfl) (ww hw 39 rfl) (by decide) (ww hw 41 rfl) (ww hw 2 rfl) e57 f58 (rm7_9 l Z a0 hw [] b7 b12 b25 k13 p1 p2 p5 k26 T52.heap n0 Z_6 f59 f60 f61 f55) (st := [(.int 1), (.ref b7)]) rfl 0 rfl (by decide) (pc := 136) (Ls := (lc10 p1 p2 p3 p4 p5 p6 b7 2 1 p1 p2 p5)) hml rfl (lenOf pd_1 rfl) at_136 hby
  obtain ⟨rfl, N63q, e63⟩ := hQ63
  have N64 := Fr.app N62 N63q
  refine own_go (U' := T63.setTop (mkF m 141 (lc10 p1 p2 p3 p4 p5 p6 b7 2 1 p1 p2 p5) [(.int p2), (.int p2)])) (fun t k => oicN X57 hx hby at_130 (teq (rfl : p1 = p1)).2 (oaload X57 hx hby at_133 rfl rfl (oiconst X57 hx hby at_135 (st63 _ (oiload X63 hx hby at_139 rfl k))))) ?_
  obtain ⟨_, T65, L65, X65, hQ65, st65⟩ := ocallV X63 hx hZ zm4 zm4 hown (ww hw 37 rfl) (ww hw 38 rfl) (notFace_of_selects (args := #[]) (mvT hZ (ww hw 40 rfl))) (ww hw 40 rfl) (ww hw 39 rfl) (by decide) (ww hw 41 rfl) (ww hw 2 rfl) e63 f58 (rm7_12 l Z a0 hw [] b7 b12 b25 k13 p1 p2 p5 k26 T52.heap n0 Z_6 f59 f60 f61 f55) (st := [(.int 2), (.ref b7)]) rfl 0 rfl (by decide) (pc := 147) (Ls := (lc10 p1 p2 p3 p4 p5 p6 b7 2 1 p1 p2 p5)) hml rfl (lenOf pd_1 rfl) at_147 hby
  obtain ⟨rfl, N65q, e65⟩ := hQ65
  have N66 := Fr.app N64 N65q
  refine own_go (U' := T65.setTop (mkF m 152 (lc10 p1 p2 p3 p4 p5 p6 b7 2 1 p1 p2 p5) [(.int p5), (.int p5)])) (fun t k => oicN X63 hx hby at_141 (teq (rfl : p2 = p2)).2 (oaload X63 hx hby at_144 rfl rfl (oiconst X63 hx hby at_146 (st65 _ (oiload X65 hx hby at_150 rfl k))))) ?_
  refine own_go (U' := T65.setTop (mkF m 160 (lc10 p1 p2 p3 p4 p5 p6 b7 2 1 p1 p2 p5) [(.int 1)])) (fun t k => oicN X65 hx hby at_152 (teq (rfl : p5 = p5)).2 (oiconst X65 hx hby at_155 (ogoto (pc := 156) X65 hx hby at_156 160 (by decide) k))) ?_
  obtain ⟨fs, hr, hrun, hended, hW, hsame⟩ := X65.leave (v := some (.int 1)) (fun h => by rw [Bd.returns] at h; cases h)
  refine own_out ⟨_, _, ?_, hrun, hended, _, _, rfl, ?_, ⟨_, rfl⟩, hW, hsame.mono (by decide) (by decide)⟩
  · exact retN X65 hx (t := .boolean) Bd.returns (by simp) (hb hby at_160) hr
  · exact ⟨rfl, N66⟩
set_option maxRecDepth 65536 in
set_option maxHeartbeats 40000000 in
theorem law_all (l : Launch) (Z : State) (a0 : Array Value) (hw : ∀ d ∈ tables_1, d.before a0 Z = true) (ws : List Jvm.Cond) (i0 : Int32) (i1 : Int32) (i2 : Int32) (i3 : Int32) (i4 : Int32) (i5 : Int32)  (h0 : Heap) (n0 : Nat) (Z0 : n0 ≤ h0.size) :
    MetFree l x (head1 (Jvm.Cond.code x code maxLocals ret :: ws) room_1) (fun a U => a = #[(.int i0), (.int i1), (.int i2), (.int i3), (.int i4), (.int i5)] ∧ Z.Warmed39 U.vm ∧ U.heap = h0) (fun _ _ _ _ _ => True) (fun _ U o U' => ∃ v L, o = .returned v ∧ QLaw n0 v U'.heap L ∧ FrameEnd U o U' L room_1.cells room_1.slots) := by
  rcases own_m3_2147483647 i3 with hk1 | hk1 | hk1
  · rcases own_s2 i5 with hk2 | hk2
    · exact rm0_13 l Z a0 hw ws i0 i1 i2 i3 i4 i5 h0 n0 Z0 hk1 hk2
    · exact rm0_15 l Z a0 hw ws i0 i1 i2 i3 i4 i5 h0 n0 Z0 hk1 hk2
  · rcases own_s2 i5 with hk3 | hk3
    · exact rm0_16 l Z a0 hw ws i0 i1 i2 i3 i4 i5 h0 n0 Z0 hk1 hk3
    · exact rm0_18 l Z a0 hw ws i0 i1 i2 i3 i4 i5 h0 n0 Z0 hk1 hk3
  · rcases own_s2 i5 with hk4 | hk4
    · exact rm0_19 l Z a0 hw ws i0 i1 i2 i3 i4 i5 h0 n0 Z0 hk1 hk4
    · exact rm0_21 l Z a0 hw ws i0 i1 i2 i3 i4 i5 h0 n0 Z0 hk1 hk4
set_option maxRecDepth 65536 in
set_option maxHeartbeats 40000000 in
theorem comes_1 {Post : Tables → Env → Array Value → State → Outcome → State → Prop} (hpost : ∀ tb e args s v u, (limb_1_1.after args s (.returned v) u = true ∧ limb_1_2.after args s (.returned v) u = true ∧ True) → FrameEnd s (.returned v) u (Jvm.fieldLocs frame_1_writes args s ++ Jvm.arrayLocs frame_1_arrays args s ++ Jvm.staticLocs frame_1_statics s) 16 192 → Post tb e args s (.returned v) u) :
    ArmFor flags0 classFile x code maxLocals ret World_1 tables_1 room_1 Calls_1 rest_1 Pre_1 Post := by
  intro l hfl _ _ p e ha hc hk s m args below hf hA hF happ hP
  obtain ⟨hcalls, hrest, hpre⟩ := hP
  obtain ⟨-, -, -, hnamed, -, -, -, hat⟩ := (Spec.applies_iff hf).mp happ
  obtain ⟨hg, hn⟩ := and_e (Cond.before_iff.mp (show (Jvm.Cond.and given_1 narrow_1).before args s = true from hpre))
  obtain ⟨g5, g6⟩ := and_e hg
  obtain ⟨g7, g8⟩ := and_e g6
  obtain ⟨g9, g10⟩ := and_e g8
  obtain ⟨g11, g12⟩ := and_e g10
  obtain ⟨g13, g14⟩ := and_e g12
  obtain ⟨g15, g16⟩ := and_e g14
  obtain ⟨v0, v1, v2, v3, v4, v5, rfl⟩ : ∃ v0 v1 v2 v3 v4 v5 : Value, args = #[v0, v1, v2, v3, v4, v5] := by
    have hs : args.size = 6 := by simpa [Cond.value, given_1] using g5
    obtain ⟨L⟩ := args
    match L, hs with
    | [v0, v1, v2, v3, v4, v5], _ => exact ⟨v0, v1, v2, v3, v4, v5, rfl⟩
  have hw := fun d (hd : d ∈ tables_1) => atoms_spec (ws := Jvm.Cond.code x code maxLocals ret :: tables_1) hat d (List.mem_cons_of_mem _ hd)
  obtain ⟨i0, ei0⟩ := is_v g7
  obtain rfl : v0 = (.int i0) := Option.some.inj ei0
  obtain ⟨i1, ei1⟩ := is_v g9
  obtain rfl : v1 = (.int i1) := Option.some.inj ei1
  obtain ⟨i2, ei2⟩ := is_v g11
  obtain rfl : v2 = (.int i2) := Option.some.inj ei2
  obtain ⟨i3, ei3⟩ := is_v g13
  obtain rfl : v3 = (.int i3) := Option.some.inj ei3
  obtain ⟨i4, ei4⟩ := is_v g15
  obtain rfl : v4 = (.int i4) := Option.some.inj ei4
  obtain ⟨i5, ei5⟩ := is_v g16
  obtain rfl : v5 = (.int i5) := Option.some.inj ei5
  have hfit : Fit s := fun {y c} hc i hi => by
    obtain ⟨ha, rfl⟩ := Array.getElem?_eq_some_iff.mp hc
    have q := List.all_eq_true.mp ((Array.all_eq_true_iff_forall_mem.mp hF) _ (Array.getElem_mem ha)) i (List.mem_range.mpr hi)
    simpa [Array.getElem?_eq_getElem hi] using q
  obtain ⟨n, o, h1, h2, h3, _, L, rfl, ⟨rfl, N⟩, hq⟩ := law_all l s _ hw tables_1 i0 i1 i2 i3 i4 i5  s.heap s.heap.size (Nat.le_refl _)  p e ha hc hk s m _ below hf ((Spec.applies_iff_loose hf).mp happ).1 ⟨rfl, State.Warmed39.refl s, rfl⟩ trivial
  refine ⟨n, _, h1, h2, h3, hpost _ _ _ _ _ _ ⟨Cond.after_iff.mpr rfl, Cond.after_iff.mpr (eq_i res_at (Term.int_eval (1)) rfl), trivial⟩ ⟨hq.1, hq.2.1, (hq.2.2.sift fun y hy => Or.inr (N y hy)).mono (by decide) (by decide)⟩⟩
theorem main_1_1 : Claimed_1_1 := comes_1 fun _ _ _ _ _ _ h hF => ⟨h.1, hF⟩
theorem main_1_2 : Claimed_1_2 := comes_1 fun _ _ _ _ _ _ h hF => ⟨h.2.1, hF⟩
end Jvm.Pilot.@@N@@
namespace Jvm.Pilot.@@N@@
open Jvm Jvm.ClassFile Sem Op Lib Jvm.Free Jvm.Stand Jvm.Pilot.@@N@@.Jvm.D
/-! MADE BY PROGRAM (witnessworld.py) out of the Statement's table words and the real class files: 11 classes; the members and pool entries that the words name. The judged class is class 1, her method 1. -/
namespace start1
open Jvm.ClassFile
def u (s : String) : CpInfo := .utf8 (stringToUtf16 s)
/-- a pool by its gaps: so many unusable entries, then the entry; so many at the end -/
def gap : Nat → List CpInfo → List CpInfo
  | 0, r => r
  | n + 1, r => .unusable :: gap n r
def poolList (es : List (Nat × CpInfo)) (last : Nat) : List CpInfo := es.foldr (fun e r => gap e.1 (e.2 :: r)) (gap last [])
def pool (es : List (Nat × CpInfo)) (last : Nat) : Array CpInfo := ⟨poolList es last⟩
def fileOf (pool : Array CpInfo) (this : Nat) (attrs : Array Attribute := #[]) (ms : Array MethodInfo := #[]) (fl : Nat := 33) (sup : Nat := 0) (ifs : Array Nat := #[]) (fds : Array FieldInfo := #[]) : ClassFile where
  minorVersion := 0
  majorVersion := 65
  constantPool := pool
  accessFlags := fl
  thisClass := this
  superClass := sup
  interfaces := ifs
  fields := fds
  methods := ms
  attributes := attrs
def plain (name : String) (sup : Option ClassId) : Class where
  name := name
  kind := .ordinary
  loader := none
  accessFlags := 33
  super := sup
  interfaces := #[]
  cf := none
  fields := #[]
  methods := #[]
  instanceTypes := #[]
  staticTypes := #[]
  resolved := #[]
  callSites := []
  init := .initialized
  statics := none
  mirror := none

def pool0 : Array CpInfo := pool [(5, u "<init>"), (0, u "()V"), (1, .class_ 10), (1, u "java/lang/Object")] 113

def k0c0 : Code := { maxStack := 0, maxLocals := 1, code := object_method_1_code, exceptionTable := #[], attributes := #[] }
def k0m0 : Method := { name := "<init>", desc := "()V", sig := { parameters := [], returnType := none }, accessFlags := 1, code := some k0c0 }
/-- java/lang/Object -/
def k0 : Class := { plain "java/lang/Object" none with
  accessFlags := 33
  interfaces := #[]
  cf := some (fileOf pool0 8 #[] #[{ accessFlags := 1, nameIndex := 5, descriptorIndex := 6, attributes := #[] }] 33 0 #[] #[])
  fields := #[]
  methods := #[k0m0]
  instanceTypes := #[]
  staticTypes := #[]
  resolved := Array.replicate 124 none
  statics := none }

def pool1 : Array CpInfo := pool [(2, .class_ 4), (0, .nameAndType 5 6), (0, u "java/lang/Object"), (0, u "<init>"), (0, u "()V"), (0, .class_ 8), (0, u "com/example/stratafold/stratafold/fhir/IntBlocks"), (0, .methodref 7 3), (0, .methodref 7 11), (0, .nameAndType 12 13), (0, u "add"), (0, u "(I)I"), (0, .integer 2147483647), (0, .methodref 7 16), (0, .nameAndType 17 18), (0, u "set"), (0, u "(II)V"), (0, .methodref 7 20), (0, .nameAndType 21 13), (0, u "get"), (0, .class_ 23), (0, u "com/example/stratafold/stratafold/fhir/IntBlocksGetPinLaw"), (2, u "law"), (0, u "(IIIIII)Z")] 3

def k1m0 : Method := { name := "<init>", desc := "()V", sig := { parameters := [], returnType := none }, accessFlags := 2, code := none }
def k1c1 : Code := { maxStack := 3, maxLocals := 12, code := code, exceptionTable := #[], attributes := #[] }
def k1m1 : Method := { name := "law", desc := "(IIIIII)Z", sig := { parameters := [.int, .int, .int, .int, .int, .int], returnType := some .boolean }, accessFlags := 9, code := some k1c1 }
/-- com/example/stratafold/stratafold/fhir/IntBlocksGetPinLaw -/
def k1 : Class := { plain "com/example/stratafold/stratafold/fhir/IntBlocksGetPinLaw" (some 0) with
  accessFlags := 49
  interfaces := #[]
  cf := some (fileOf pool1 22 #[] #[{ accessFlags := 2, nameIndex := 5, descriptorIndex := 6, attributes := #[] }, { accessFlags := 9, nameIndex := 26, descriptorIndex := 27, attributes := #[] }] 49 2 #[] #[])
  fields := #[]
  methods := #[k1m0, k1m1]
  instanceTypes := #[]
  staticTypes := #[]
  resolved := Array.replicate 31 none
  statics := none }

def pool2 : Array CpInfo := pool [(1, .class_ 2), (0, u "com/example/stratafold/stratafold/fhir/IntBlocks"), (0, .methodref 4 5), (0, .class_ 6), (0, .nameAndType 7 8), (0, u "java/lang/Object"), (0, u "<init>"), (0, u "()V"), (0, .class_ 10), (0, u "[I"), (0, .fieldref 1 12), (0, .nameAndType 13 14), (0, u "blocks"), (0, u "[[I"), (0, .fieldref 1 16), (0, .nameAndType 17 18), (0, u "size"), (0, u "I"), (2, .integer 2147483647), (17, .methodref 40 41), (0, .class_ 42), (0, .nameAndType 43 44), (0, u "java/util/Objects"), (0, u "checkIndex"), (0, u "(II)I"), (0, u "SHIFT"), (2, u "BLOCK"), (1, u "FIRST"), (4, u "add"), (0, u "(I)I"), (1, u "get"), (0, u "set"), (0, u "(II)V")] 2

def k2c0 : Code := { maxStack := 2, maxLocals := 1, code := prog_21_method_1_code, exceptionTable := #[], attributes := #[] }
def k2m0 : Method := { name := "<init>", desc := "()V", sig := { parameters := [], returnType := none }, accessFlags := 0, code := some k2c0 }
def k2c1 : Code := { maxStack := 5, maxLocals := 4, code := prog_21_method_3_code, exceptionTable := #[], attributes := #[] }
def k2m1 : Method := { name := "add", desc := "(I)I", sig := { parameters := [.int], returnType := some .int }, accessFlags := 0, code := some k2c1 }
def k2c2 : Code := { maxStack := 3, maxLocals := 2, code := prog_21_method_4_code, exceptionTable := #[], attributes := #[] }
def k2m2 : Method := { name := "get", desc := "(I)I", sig := { parameters := [.int], returnType := some .int }, accessFlags := 0, code := some k2c2 }
def k2c3 : Code := { maxStack := 3, maxLocals := 3, code := prog_21_method_5_code, exceptionTable := #[], attributes := #[] }
def k2m3 : Method := { name := "set", desc := "(II)V", sig := { parameters := [.int, .int], returnType := none }, accessFlags := 0, code := some k2c3 }
/-- com/example/stratafold/stratafold/fhir/IntBlocks -/
def k2 : Class := { plain "com/example/stratafold/stratafold/fhir/IntBlocks" (some 0) with
  accessFlags := 48
  interfaces := #[]
  cf := some (fileOf pool2 1 #[] #[{ accessFlags := 0, nameIndex := 7, descriptorIndex := 8, attributes := #[] }, { accessFlags := 0, nameIndex := 55, descriptorIndex := 56, attributes := #[] }, { accessFlags := 0, nameIndex := 58, descriptorIndex := 56, attributes := #[] }, { accessFlags := 0, nameIndex := 59, descriptorIndex := 60, attributes := #[] }] 48 4 #[] #[{ accessFlags := 26, nameIndex := 45, descriptorIndex := 18, attributes := #[] }, { accessFlags := 26, nameIndex := 48, descriptorIndex := 18, attributes := #[] }, { accessFlags := 26, nameIndex := 50, descriptorIndex := 18, attributes := #[] }, { accessFlags := 2, nameIndex := 13, descriptorIndex := 14, attributes := #[] }, { accessFlags := 2, nameIndex := 17, descriptorIndex := 18, attributes := #[] }])
  fields := #[{ name := "SHIFT", type := .int, accessFlags := 26, slot := 0, constantValue := 0 }, { name := "BLOCK", type := .int, accessFlags := 26, slot := 1, constantValue := 0 }, { name := "FIRST", type := .int, accessFlags := 26, slot := 2, constantValue := 0 }, { name := "blocks", type := (.array (.array .int)), accessFlags := 2, slot := 0, constantValue := 0 }, { name := "size", type := .int, accessFlags := 2, slot := 1, constantValue := 0 }]
  methods := #[k2m0, k2m1, k2m2, k2m3]
  instanceTypes := #[(.array (.array .int)), .int]
  staticTypes := #[.int, .int, .int]
  resolved := Array.replicate 63 none
  statics := none }

def pool3 : Array CpInfo := pool [(2, .class_ 4), (1, u "java/lang/Object"), (0, u "<init>"), (0, u "()V"), (35, .class_ 44), (1, u "java/util/Objects"), (60, .methodref 106 107), (0, .class_ 108), (0, .nameAndType 109 110), (0, u "jdk/internal/util/Preconditions"), (0, u "checkIndex"), (0, u "(IILjava/util/function/BiFunction;)I"), (60, u "(II)I")] 12

def k3m0 : Method := { name := "<init>", desc := "()V", sig := { parameters := [], returnType := none }, accessFlags := 2, code := none }
def k3c1 : Code := { maxStack := 3, maxLocals := 2, code := jdk_31_method_17_code, exceptionTable := #[], attributes := #[] }
def k3m1 : Method := { name := "checkIndex", desc := "(II)I", sig := { parameters := [.int, .int], returnType := some .int }, accessFlags := 9, code := some k3c1 }
/-- java/util/Objects -/
def k3 : Class := { plain "java/util/Objects" (some 0) with
  accessFlags := 49
  interfaces := #[]
  cf := some (fileOf pool3 42 #[] #[{ accessFlags := 2, nameIndex := 5, descriptorIndex := 6, attributes := #[] }, { accessFlags := 9, nameIndex := 109, descriptorIndex := 171, attributes := #[] }] 49 2 #[] #[])
  fields := #[]
  methods := #[k3m0, k3m1]
  instanceTypes := #[]
  staticTypes := #[]
  resolved := Array.replicate 184 none
  statics := none }

def pool4 : Array CpInfo := pool [(2, .class_ 4), (1, u "java/lang/Object"), (0, u "<init>"), (0, u "()V"), (17, .class_ 26), (1, u "jdk/internal/util/Preconditions"), (6, u "checkIndex"), (21, .class_ 56), (0, u "jdk/internal/util/Preconditions$4"), (57, .class_ 115), (0, u "jdk/internal/util/Preconditions$1"), (7, u "SIOOBE_FORMATTER"), (0, u "Ljava/util/function/BiFunction;"), (0, .class_ 126), (0, u "jdk/internal/util/Preconditions$2"), (3, u "AIOOBE_FORMATTER"), (0, .class_ 132), (0, u "jdk/internal/util/Preconditions$3"), (3, u "IOOBE_FORMATTER"), (41, u "(IILjava/util/function/BiFunction;)I")] 15

def k4m0 : Method := { name := "<init>", desc := "()V", sig := { parameters := [], returnType := none }, accessFlags := 1, code := none }
def k4c1 : Code := { maxStack := 3, maxLocals := 3, code := jdk_41_method_11_code, exceptionTable := #[], attributes := #[] }
def k4m1 : Method := { name := "checkIndex", desc := "(IILjava/util/function/BiFunction;)I", sig := { parameters := [.int, .int, (.object "java/util/function/BiFunction")], returnType := some .int }, accessFlags := 9, code := some k4c1 }
/-- jdk/internal/util/Preconditions -/
def k4 : Class := { plain "jdk/internal/util/Preconditions" (some 0) with
  accessFlags := 33
  interfaces := #[]
  cf := some (fileOf pool4 24 #[.nestMembers #[55, 131, 125, 114]] #[{ accessFlags := 1, nameIndex := 5, descriptorIndex := 6, attributes := #[] }, { accessFlags := 9, nameIndex := 33, descriptorIndex := 178, attributes := #[] }] 33 2 #[] #[{ accessFlags := 25, nameIndex := 123, descriptorIndex := 124, attributes := #[] }, { accessFlags := 25, nameIndex := 130, descriptorIndex := 124, attributes := #[] }, { accessFlags := 25, nameIndex := 136, descriptorIndex := 124, attributes := #[] }])
  fields := #[{ name := "SIOOBE_FORMATTER", type := (.object "java/util/function/BiFunction"), accessFlags := 25, slot := 0, constantValue := 0 }, { name := "AIOOBE_FORMATTER", type := (.object "java/util/function/BiFunction"), accessFlags := 25, slot := 1, constantValue := 0 }, { name := "IOOBE_FORMATTER", type := (.object "java/util/function/BiFunction"), accessFlags := 25, slot := 2, constantValue := 0 }]
  methods := #[k4m0, k4m1]
  instanceTypes := #[]
  staticTypes := #[(.object "java/util/function/BiFunction"), (.object "java/util/function/BiFunction"), (.object "java/util/function/BiFunction")]
  resolved := Array.replicate 194 none
  statics := none }

def pool5 : Array CpInfo := pool [(1, u "java/lang/Cloneable"), (0, .class_ 1), (0, u "java/lang/Object"), (0, .class_ 3)] 3

/-- java/lang/Cloneable -/
def k5 : Class := { plain "java/lang/Cloneable" (some 0) with
  accessFlags := 1537
  interfaces := #[]
  cf := some (fileOf pool5 2 #[] #[] 1537 4 #[] #[])
  fields := #[]
  methods := #[]
  instanceTypes := #[]
  staticTypes := #[]
  resolved := Array.replicate 8 none
  statics := none }

def pool6 : Array CpInfo := pool [(1, u "java/io/Serializable"), (0, .class_ 1), (0, u "java/lang/Object"), (0, .class_ 3)] 3

/-- java/io/Serializable -/
def k6 : Class := { plain "java/io/Serializable" (some 0) with
  accessFlags := 1537
  interfaces := #[]
  cf := some (fileOf pool6 2 #[] #[] 1537 4 #[] #[])
  fields := #[]
  methods := #[]
  instanceTypes := #[]
  staticTypes := #[]
  resolved := Array.replicate 8 none
  statics := none }

/-- the primitive byte -/
def k7 : Class := { plain "byte" none with kind := .primitive 'B', accessFlags := 0x411 }
/-- [B -/
def k8 : Class := { plain "[B" (some 0) with kind := .array 7 .byte, interfaces := #[5, 6], accessFlags := 1041 }

/-- the primitive int -/
def k9 : Class := { plain "int" none with kind := .primitive 'I', accessFlags := 0x411 }
/-- [I -/
def k10 : Class := { plain "[I" (some 0) with kind := .array 9 .int, interfaces := #[5, 6], accessFlags := 1041 }

def heap : Heap := #[]
def k11 : Class := { plain "[[I" (some 0) with kind := .array 10 (.array .int), interfaces := #[5, 6], accessFlags := 1041 }
def classes : Array Class := #[k0, k1, k2, k3, k4, k5, k6, k7, k8, k9, k10, k11]
def interned : List (Array UInt16 × Addr) := []
def slotsUsed : Nat := 0
def theMethod : MethodId := ⟨1, 1⟩
def args0 : Array Value := #[.int 5, .int 5, .int 5, .int 5, .int 5, .int 5]
def aboutOver (below : List Frame) : State where
  vm := { classes := classes, interned := interned.toArray }
  heap := heap
  slotsUsed := slotsUsed
  threads := #[{ frames := .invoking theMethod args0 :: below }]
def below0 : List Frame := [.native { method := ⟨0, 0⟩, args := #[] }]
def about1 : State := aboutOver below0
def p0 : Program := .bare "" "" ""
def e0 : Env := launch0.env 0 0 0
theorem w_frames : about1.frames = Frame.invoking theMethod args0 :: below0 := rfl
set_option maxRecDepth 65536 in
theorem w_args : argsFit about1.vm theMethod args0 = true := by decide +kernel
set_option maxRecDepth 65536 in
theorem w_heap : heapFits about1 = true := by decide +kernel
set_option maxRecDepth 65536 in
theorem w_runnable : about1.curStatus? = some .runnable := by decide +kernel
set_option maxRecDepth 65536 in
theorem w_alone : about1.alone = true := by decide +kernel
set_option maxRecDepth 65536 in
theorem w_named : about1.methodNamed? x = some theMethod := by decide +kernel
set_option maxRecDepth 65536 in
theorem w_hears : about1.hears theMethod below0 = true := by decide +kernel
set_option maxRecDepth 65536 in
theorem w_ripe : about1.ripe theMethod args0 below0 = true := by decide +kernel
theorem w_running : about1.status = .running := rfl
set_option maxRecDepth 65536 in
theorem w_room : about1.hasRoom e0.platform room_1 = true :=
  launch0.hasRoom_least _ room_1 (by decide +kernel) (by decide +kernel) (by decide +kernel) (by decide +kernel) (by decide +kernel) (by decide +kernel)
theorem allAtoms_all (ts : List Jvm.Cond) (a : Array Jvm.Value) (st : Jvm.State) : (allAtoms ts).before a st = ts.all (fun c => c.before a st) := by
  induction ts with
  | nil => rfl
  | cons c t ih =>
    show (Jvm.Cond.and c (allAtoms t)).before a st = _
    rw [Jvm.Cond.before_and, ih, List.all_cons]
def words1 : List Jvm.Cond := Jvm.Cond.code x code maxLocals ret :: tables_1
/-- a 'code' word, met by the world's own term for the bytes: nothing is compared byte by byte -/
theorem code_word {y : MethodName} {bytes : ByteArray} {mx : Nat} {rt : Option FieldType} {a : Array Value} {s : State} {m : MethodId} {meth : Method} {c : Code} (h1 : s.methodNamed? y = some m) (h2 : s.vm.method? m = some meth) (h3 : meth.code = some c) (h4 : c.code = bytes)
    (h5 : (c.maxLocals == mx && c.exceptionTable.isEmpty && decide (c.maxStack ≤ mostOperands) && decide (meth.sig.returnType = rt) && !meth.locks && decide (parseMethodDescriptor y.desc = some meth.sig)) = true) : (Jvm.Cond.code y bytes mx rt).before a s = true := by
  simp only [Bool.and_eq_true, beq_iff_eq, Bool.not_eq_true', decide_eq_true_eq] at h5
  obtain ⟨⟨⟨⟨⟨g1, g2⟩, g3⟩, g4⟩, g5⟩, g6⟩ := h5
  simp [Cond.before, Cond.holds, Cond.value, h1, h2, h3, h4, g1, g2, g3, g4, g5, g6]
def isCode : Jvm.Cond → Bool
  | .code _ _ _ _ => true
  | _ => false
theorem all_split {L : List Jvm.Cond} {P : Jvm.Cond → Bool} (h1 : L.all (fun c => isCode c || P c) = true) (h2 : ∀ c ∈ L.filter isCode, P c = true) : L.all P = true := by
  refine List.all_eq_true.mpr fun c hc => ?_
  have h := List.all_eq_true.mp h1 c hc
  rcases Bool.eq_false_or_eq_true (isCode c) with hi | hi
  · exact h2 c (List.mem_filter.mpr ⟨hc, hi⟩)
  · simpa [hi] using h
set_option maxRecDepth 65536 in
theorem w_c0 : (Jvm.Cond.code x code maxLocals ret).before args0 about1 = true := code_word (m := ⟨1, 1⟩) (meth := k1m1) (c := k1c1) (by decide +kernel) rfl rfl rfl (by decide +kernel)
set_option maxRecDepth 65536 in
theorem w_c1 : (Jvm.Cond.code ({ cls := "com/example/stratafold/stratafold/fhir/IntBlocks", name := "<init>", desc := "()V" } : Jvm.MethodName) prog_21_method_1_code (1 : Nat) (Option.none : Option Jvm.ClassFile.FieldType)).before args0 about1 = true := code_word (m := ⟨2, 0⟩) (meth := k2m0) (c := k2c0) (by decide +kernel) rfl rfl rfl (by decide +kernel)
set_option maxRecDepth 65536 in
theorem w_c2 : (Jvm.Cond.code ({ cls := "java/lang/Object", name := "<init>", desc := "()V" } : Jvm.MethodName) object_method_1_code (1 : Nat) (Option.none : Option Jvm.ClassFile.FieldType)).before args0 about1 = true := code_word (m := ⟨0, 0⟩) (meth := k0m0) (c := k0c0) (by decide +kernel) rfl rfl rfl (by decide +kernel)
set_option maxRecDepth 65536 in
theorem w_c3 : (Jvm.Cond.code ({ cls := "com/example/stratafold/stratafold/fhir/IntBlocks", name := "add", desc := "(I)I" } : Jvm.MethodName) prog_21_method_3_code (4 : Nat) (Option.some Jvm.ClassFile.FieldType.int)).before args0 about1 = true := code_word (m := ⟨2, 1⟩) (meth := k2m1) (c := k2c1) (by decide +kernel) rfl rfl rfl (by decide +kernel)
set_option maxRecDepth 65536 in
theorem w_c4 : (Jvm.Cond.code ({ cls := "com/example/stratafold/stratafold/fhir/IntBlocks", name := "set", desc := "(II)V" } : Jvm.MethodName) prog_21_method_5_code (3 : Nat) (Option.none : Option Jvm.ClassFile.FieldType)).before args0 about1 = true := code_word (m := ⟨2, 3⟩) (meth := k2m3) (c := k2c3) (by decide +kernel) rfl rfl rfl (by decide +kernel)
set_option maxRecDepth 65536 in
theorem w_c5 : (Jvm.Cond.code ({ cls := "java/util/Objects", name := "checkIndex", desc := "(II)I" } : Jvm.MethodName) jdk_31_method_17_code (2 : Nat) (Option.some Jvm.ClassFile.FieldType.int)).before args0 about1 = true := code_word (m := ⟨3, 1⟩) (meth := k3m1) (c := k3c1) (by decide +kernel) rfl rfl rfl (by decide +kernel)
set_option maxRecDepth 65536 in
theorem w_c6 : (Jvm.Cond.code ({ cls := "jdk/internal/util/Preconditions", name := "checkIndex", desc := "(IILjava/util/function/BiFunction;)I" } : Jvm.MethodName) jdk_41_method_11_code (3 : Nat) (Option.some Jvm.ClassFile.FieldType.int)).before args0 about1 = true := code_word (m := ⟨4, 1⟩) (meth := k4m1) (c := k4c1) (by decide +kernel) rfl rfl rfl (by decide +kernel)
set_option maxRecDepth 65536 in
theorem w_c7 : (Jvm.Cond.code ({ cls := "com/example/stratafold/stratafold/fhir/IntBlocks", name := "get", desc := "(I)I" } : Jvm.MethodName) prog_21_method_4_code (2 : Nat) (Option.some Jvm.ClassFile.FieldType.int)).before args0 about1 = true := code_word (m := ⟨2, 2⟩) (meth := k2m2) (c := k2c2) (by decide +kernel) rfl rfl rfl (by decide +kernel)
def codes1 : List Jvm.Cond := [Jvm.Cond.code x code maxLocals ret, Jvm.Cond.code ({ cls := "com/example/stratafold/stratafold/fhir/IntBlocks", name := "<init>", desc := "()V" } : Jvm.MethodName) prog_21_method_1_code (1 : Nat) (Option.none : Option Jvm.ClassFile.FieldType), Jvm.Cond.code ({ cls := "java/lang/Object", name := "<init>", desc := "()V" } : Jvm.MethodName) object_method_1_code (1 : Nat) (Option.none : Option Jvm.ClassFile.FieldType), Jvm.Cond.code ({ cls := "com/example/stratafold/stratafold/fhir/IntBlocks", name := "add", desc := "(I)I" } : Jvm.MethodName) prog_21_method_3_code (4 : Nat) (Option.some Jvm.ClassFile.FieldType.int), Jvm.Cond.code ({ cls := "com/example/stratafold/stratafold/fhir/IntBlocks", name := "set", desc := "(II)V" } : Jvm.MethodName) prog_21_method_5_code (3 : Nat) (Option.none : Option Jvm.ClassFile.FieldType), Jvm.Cond.code ({ cls := "java/util/Objects", name := "checkIndex", desc := "(II)I" } : Jvm.MethodName) jdk_31_method_17_code (2 : Nat) (Option.some Jvm.ClassFile.FieldType.int), Jvm.Cond.code ({ cls := "jdk/internal/util/Preconditions", name := "checkIndex", desc := "(IILjava/util/function/BiFunction;)I" } : Jvm.MethodName) jdk_41_method_11_code (3 : Nat) (Option.some Jvm.ClassFile.FieldType.int), Jvm.Cond.code ({ cls := "com/example/stratafold/stratafold/fhir/IntBlocks", name := "get", desc := "(I)I" } : Jvm.MethodName) prog_21_method_4_code (2 : Nat) (Option.some Jvm.ClassFile.FieldType.int)]
set_option maxRecDepth 65536 in
theorem codes_eq : words1.filter isCode = codes1 := rfl
theorem w_codes : ∀ c ∈ words1.filter isCode, c.before args0 about1 = true := by
  rw [codes_eq]
  intro c hc
  simp only [codes1, List.mem_cons, List.not_mem_nil, or_false] at hc
  rcases hc with rfl | rfl | rfl | rfl | rfl | rfl | rfl | rfl
  · exact w_c0
  · exact w_c1
  · exact w_c2
  · exact w_c3
  · exact w_c4
  · exact w_c5
  · exact w_c6
  · exact w_c7
set_option maxRecDepth 65536 in
theorem w_t1 : (words1.take 24).all (fun c => isCode c || c.before args0 about1) = true := by decide +kernel
set_option maxRecDepth 65536 in
theorem w_t2 : (words1.drop 24).all (fun c => isCode c || c.before args0 about1) = true := by decide +kernel
theorem w_tables : (allAtoms (Jvm.Cond.code x code maxLocals ret :: tables_1)).before args0 about1 = true := by
  rw [allAtoms_all]
  show words1.all (fun c => c.before args0 about1) = true
  refine all_split ?_ w_codes
  rw [← List.take_append_drop 24 words1, List.all_append, w_t1, w_t2]
  rfl
set_option maxRecDepth 65536 in
theorem w_case : (Jvm.Cond.and given_1 narrow_1).before args0 about1 = true := by decide +kernel
theorem w_applies : (headSpec (Jvm.Cond.code x code maxLocals ret :: tables_1) room_1).applies x e0.platform about1 = true :=
  (Spec.applies_iff w_frames).mpr ⟨w_running, w_runnable, w_alone, w_named, w_hears, w_ripe, w_room, w_tables⟩
theorem atStart : AtStart classFile x code maxLocals ret World_1 tables_1 room_1 Calls_1 rest_1 Pre_1 launch0 p0 e0 about1 theMethod args0 below0 :=
  ⟨lists_1, trivial, launch0.admits_env _ _ _, launch0.least_env, fairChoices_fair.cas, fairChoices_fair.clock, w_frames, w_args, w_heap, w_applies, trivial, trivial, w_case⟩
end start1
theorem witness_1 : WitnessClaimed_1 := ⟨start1.p0, start1.e0, start1.about1, start1.theMethod, start1.args0, start1.below0, start1.atStart⟩
end Jvm.Pilot.@@N@@
