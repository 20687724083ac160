import JvmDerived
import JvmDerived.Pilot.@@N@@Statement
import JvmDerived.Pilot.@@N@@Code
set_option linter.unusedVariables false
set_option linter.unusedSimpArgs false
namespace Jvm.RoadKit
open Sem ClassFile Op Lib Jvm.Stand Jvm.Free Jvm.LawKit
section New
variable {p : Program} {l : Launch} {e : Env} {R : Room} {s : State} {m : MethodId} {args : Array Value} {below : List Frame} {meth : Method} {c : Code} {T : State} {locs : List Loc} {cells slots : Nat}
theorem retI (X : Stand p l e R s m args below meth c T locs cells slots) (hx : p.tables.exec = Jvm.exec) {pc : Nat} {Ls : Array Slot} {z : Int32} {rest : List Value} (hret : meth.sig.returnType = some .int) (hd : decode c.code pc = .ok (.ireturn, 1)) {fs : List Frame}
    (hl : ∀ (f : JFrame) (acts : List Action), f.method = m → f.locked = none → f.entered = [] → (doReturn e (T.setTop f) acts (some (.int z))).1 = T.setFrames fs) : Steps p.tables e below (T.setTop (mkF m pc Ls (.int z :: rest))) (T.setFrames fs) := by
  have hm' : T.vm.method? m = some meth := X.method'
  have hn : narrow .int (.int z) = .int z := rfl
  show Steps p.tables e below (T.setTop { method := m, pc := pc, locals := Ls, stack := _ :: rest, locked := none }) _
  jvm_step X.here [X.here.top, hx, hd, hm', hret, hn]
  first | (intro acts; rw [hl _ acts rfl rfl rfl]) | rw [hl _ _ rfl rfl rfl]
  exact Steps.refl _
end New
/-! the walk's own frame: a goal that is met by going on -/
section Own
variable {tb : Tables} {e : Env} {below : List Frame} {R : State → Outcome → Prop} {U U' T : State}
def own_G (tb : Tables) (e : Env) (below : List Frame) (R : State → Outcome → Prop) (U : State) : Prop := ∃ f o, Steps tb e below U f ∧ R f o
theorem own_pre {g g' : JFrame} (q : g = g') (h : own_G tb e below R (T.setTop g')) : ∃ f o, Steps tb e below (T.setTop g) f ∧ R f o := by rw [q]; exact h
theorem own_go (st : ∀ t, Steps tb e below U' t → Steps tb e below U t) (h : own_G tb e below R U') : own_G tb e below R U := by
  obtain ⟨f, o, h1, h2⟩ := h; exact ⟨f, o, st _ h1, h2⟩
def own_rg (N z : Int32) : Prop := ¬ z < (0 : Int32) ∧ z < N
theorem own_rgI {N z : Int32} {k : Int} (h : own_rg N z) (e : N.toInt = k) : 0 ≤ z.toInt ∧ z.toInt < k := by
  have a0 : ¬ z.toInt < 0 := fun q => h.1 (Int32.lt_iff_toInt_lt.mpr q)
  have a1 := Int32.lt_iff_toInt_lt.mp h.2
  omega
theorem own_tern {F : Int32 → State} {N : Int32} (h : (∀ z, own_rg N z → own_G tb e below R (F z)) → own_G tb e below R U) (k : ∀ z, own_rg N z → own_G tb e below R (F z)) : own_G tb e below R U := h k
theorem own_out (h : ∃ f o, Steps tb e below U f ∧ R f o) : own_G tb e below R U := h
end Own
section OwnFacts
variable {Z : State} {h h' : Heap} {a : Addr} {ws : List Addr} {C n d : String} {v : Value} {b : Bool}
def own_NS (h : Heap) (a : Addr) : Prop := ∃ c : Cell, h[a]? = some c ∧ c.vm.isStatics = false
theorem own_nsE (F : Exa Z h a C) : own_NS h a := by obtain ⟨c, k, h1, -, -, h4, -⟩ := F; exact ⟨c, h1, h4⟩
theorem own_staK (F : Sta Z h C n d v) (K : Keep h h' ws) (q : ∀ x ∈ ws, own_NS h x) : Sta Z h' C n d v := by
  obtain ⟨cf, i, k, f, st, cell, h1, h2, h3, h4, h5, h6, h7⟩ := F
  refine ⟨cf, i, k, f, st, cell, h1, h2, h3, h4, K.2.1 st cell h5 (fun hm => ?_), h6, h7⟩
  obtain ⟨c, e1, e2⟩ := q st hm
  cases h5.symm.trans e1
  rw [e2] at h6; cases h6
theorem nlt {a b c : Nat} (h : a < b) (k : b ≤ c) : a < c := Nat.lt_of_lt_of_le h k
theorem own_at {h h' : Heap} {a : Addr} {c : Cell} (e : h' = h) (g : h[a]? = some c) : h'[a]? = some c := by rw [e]; exact g
variable {args : Array Value} {t u : Term} {x : Addr}
theorem own_fldI {k : Int32} (ev : t.eval args Z none [] Z = some (.ref x)) (hh : (Cond.eq (.field t C n d) (.int k)).value args Z none Z [] = some true) : Fld Z Z.heap x C n d (.int k) := by
  refine Fld.start ?_
  obtain ⟨y, w, e1, e2, k1, -⟩ := cmp_v (Or.inl hh)
  cases (Term.int_eval k).symm.trans e2
  rw [fld_at ev] at e1
  cases y <;> simp [Kin, Value.isRef] at k1
  rename_i q
  have e3 : (Term.field t C n d).eval args Z none [] Z = some (.int q) := by rw [fld_at ev]; exact e1
  simp [Cond.value, e3, Term.int_eval] at hh
  rw [e1, hh]
theorem own_isR (hh : (Cond.isRef t).value args Z none Z [] = some true) : ∃ v, t.eval args Z none [] Z = some v ∧ v.isRef = true := by
  simp only [Cond.value, Option.map_eq_some_iff] at hh
  obtain ⟨v, h1, h2⟩ := hh
  exact ⟨v, h1, by cases v <;> simp_all [Value.isRef]⟩
theorem own_neI {k q : Int32} (ev : t.eval args Z none [] Z = some (.int q)) (hh : (Cond.not (.eq t (.int k))).value args Z none Z [] = some true) : ¬ (q = k) := by simpa [Cond.value, ev, Term.int_eval] using hh
theorem own_len {cl : Cell} {ty : FieldType} {k : Int32} (ev : t.eval args Z none [] Z = some (.ref x)) (A : Arr Z Z.heap x cl ty) (hh : (Cond.eq (.length t) (.int k)).value args Z none Z [] = some true) : cl.slots.size < 2 ^ 31 ∧ cl.slots.size.toInt32 = k := by
  obtain ⟨y, w, e1, e2, k1, -⟩ := cmp_v (Or.inl hh)
  cases (Term.int_eval k).symm.trans e2
  have hA := A.fin (Vm.Alike.refl _)
  have hl : cl.slots.size < 2 ^ 31 := by
    rcases Nat.lt_or_ge cl.slots.size (2 ^ 31) with q | q
    · exact q
    · simp [Term.eval, ev, hA, Nat.not_lt.mpr q] at e1
  refine ⟨hl, ?_⟩
  have e3 := len_f ev hA hl
  simp [Cond.value, e3, Term.int_eval] at hh
  exact hh
end OwnFacts
theorem own_u16 (u : UInt16) : (u.toUInt32.toInt32).toInt = u.toNat := by
  have hu := u.toNat_lt
  show ((u.toUInt32).toBitVec).toInt = _
  have hm : (u.toUInt32).toBitVec.toNat = u.toNat := by
    show (u.toUInt32).toNat = _
    simp
  rw [BitVec.toInt_eq_toNat_of_lt (by rw [hm]; omega), hm]
theorem own_i2c {x : Int32} (h0 : ¬ x < (0 : Int32)) (h1 : x < (65536 : Int32)) : x.toUInt32.toUInt16.toUInt32.toInt32 = x := by
  have a0 : ¬ x.toInt < 0 := fun e => h0 (Int32.lt_iff_toInt_lt.mpr e)
  have a1 : x.toInt < 65536 := Int32.lt_iff_toInt_lt.mp h1
  apply Int32.toInt_inj.mp
  rw [own_u16, UInt32.toNat_toUInt16]
  have h2 : x.toUInt32.toNat = x.toInt.toNat := by
    show x.toBitVec.toNat = x.toBitVec.toInt.toNat
    have := x.toBitVec.isLt
    have e : x.toInt = x.toBitVec.toInt := rfl
    rw [e, BitVec.toInt_eq_toNat_bmod] at a0
    rw [BitVec.toInt_eq_toNat_bmod]
    simp only [Int.bmod] at a0 ⊢
    split at a0 <;> split <;> omega
  rw [h2]; omega
theorem own_i2bb {x : Int32} : x.toInt8.toInt32.toInt8.toInt32 = x.toInt8.toInt32 := by simp
theorem own_i2b {x : Int32} (h0 : ¬ x < (0 : Int32)) (h1 : x < (256 : Int32)) : x.toInt8.toInt32.toInt = if x.toInt < 128 then x.toInt else x.toInt - 256 := by
  have a0 : ¬ x.toInt < 0 := fun e => h0 (Int32.lt_iff_toInt_lt.mpr e)
  have a1 : x.toInt < 256 := Int32.lt_iff_toInt_lt.mp h1
  have h : x.toInt8.toInt32.toInt = x.toInt.bmod 256 := by simp
  rw [h]; simp only [Int.bmod]; split <;> split <;> omega
theorem own_i2bi {x y : Int32} (h0 : ¬ x < (0 : Int32)) (h1 : x < (256 : Int32)) (k0 : ¬ y < (0 : Int32)) (k1 : y < (256 : Int32)) (h : x.toInt8.toInt32 = y.toInt8.toInt32) : x = y := by
  have e := congrArg Int32.toInt h
  rw [own_i2b h0 h1, own_i2b k0 k1] at e
  have a1 : x.toInt < 256 := Int32.lt_iff_toInt_lt.mp h1
  have b1 : y.toInt < 256 := Int32.lt_iff_toInt_lt.mp k1
  have a0 : ¬ x.toInt < 0 := fun e => h0 (Int32.lt_iff_toInt_lt.mpr e)
  have b0 : ¬ y.toInt < 0 := fun e => k0 (Int32.lt_iff_toInt_lt.mpr e)
  apply Int32.toInt_inj.mp
  split at e <;> split at e <;> omega
theorem own_fitC {x : Int32} (h0 : ¬ x < (0 : Int32)) (h1 : x < (65536 : Int32)) : fits .char (.int x) = true := by
  have a0 : ¬ x.toInt < 0 := fun e => h0 (Int32.lt_iff_toInt_lt.mpr e)
  have a1 : x.toInt < 65536 := Int32.lt_iff_toInt_lt.mp h1
  have e1 : (0 : Int32).toInt = 0 := by decide
  have e2 : (65535 : Int32).toInt = 65535 := by decide
  show (decide ((0 : Int32) ≤ x) && decide (x ≤ (65535 : Int32))) = true
  rw [Bool.and_eq_true]
  exact ⟨decide_eq_true (Int32.le_iff_toInt_le.mpr (by omega)), decide_eq_true (Int32.le_iff_toInt_le.mpr (by omega))⟩
theorem own_fitI {x : Int32} : fits .byte (.int (x.toInt8.toInt32)) = true := by
  have h : x.toInt8.toInt32.toInt = x.toInt.bmod 256 := by simp
  have e1 : (-128 : Int32).toInt = -128 := by decide
  have e2 : (127 : Int32).toInt = 127 := by decide
  have r : -128 ≤ x.toInt.bmod 256 ∧ x.toInt.bmod 256 ≤ 127 := by simp only [Int.bmod]; split <;> omega
  show (decide ((-128 : Int32) ≤ x.toInt8.toInt32) && decide (x.toInt8.toInt32 ≤ (127 : Int32))) = true
  rw [Bool.and_eq_true]
  exact ⟨decide_eq_true (Int32.le_iff_toInt_le.mpr (by omega)), decide_eq_true (Int32.le_iff_toInt_le.mpr (by omega))⟩
theorem own_nsR {Z : State} {a0 : Array Value} {O K : String} {n : Nat} (w : (Cond.noSuperclass O).before a0 Z = true) (wi : (Cond.instantiable K n).before a0 Z = true) (hn : O ≠ K) : NS Z O K := by
  obtain ⟨c, k, h1, h2, h3, -, -⟩ := Cond.noSuperclass_spec w
  obtain ⟨t, kt, g1, -⟩ := Cond.instantiable_spec wi
  have ne := ids_ne h1 g1 hn
  refine ⟨c, t, h1, g1, fun fuel => ?_⟩
  cases fuel with
  | zero => rfl
  | succ f => simp [Vm.isSubclassAux, ne, h2, h3]
theorem own_nsN {Z : State} {a0 : Array Value} {C S K : String} {n : Nat} (w : (Cond.superclass C S).before a0 Z = true) (wi : (Cond.instantiable K n).before a0 Z = true) (ns : NS Z C K) (hn : C ≠ K) : ∃ c t, Z.vm.findClass C = some c ∧ Z.vm.findClass K = some t ∧ Z.vm.assignable c t = false := by
  obtain ⟨c, t, h0, g0, n3⟩ := ns
  obtain ⟨p, k, kp, h1, h2, h3, h4, h5, -, h7⟩ := Cond.superclass_spec h0 w
  obtain ⟨t', kt, g1, g2, g3, g4, -⟩ := Cond.instantiable_spec wi
  cases g0.symm.trans g1
  have ne := ids_ne h0 g0 hn
  have g7 : kt.isInterface = false := by simp only [Bool.or_eq_false_iff] at g4; exact g4.1
  refine ⟨c, t, h0, g0, ?_⟩
  show Z.vm.assignableAux (255 + 1) c t = false
  simp [Vm.assignableAux, ne, h2, g2, h5, g3, g7, Vm.isSubclass, n3]
/-- the cache of Longs: old objects, each with its number -/
def own_LC (Z : State) (h : Heap) (a : Addr) (n : Nat) : Prop := ∃ cl : Cell, Arr Z h a cl (.object "java/lang/Long") ∧ cl.slots.size = (256 : Int32).toNatClampNeg ∧ a < n ∧ ∀ j : Int32, ¬ j < 0 → j < 256 → ∃ b : Addr, cl.slots[j.toNatClampNeg]? = some (.ref b) ∧ b < n ∧ Exa Z h b "java/lang/Long" ∧ Fld Z h b "java/lang/Long" "value" "J" (.long (j - 128).toInt64)
theorem own_LC.keep {Z : State} {h h' : Heap} {a : Addr} {n : Nat} {ws : List Addr} (F : own_LC Z h a n) (K : Keep h h' ws) (q : ∀ x ∈ ws, n ≤ x) : own_LC Z h' a n := by
  obtain ⟨cl, A, S, ha, M⟩ := F
  refine ⟨cl, ⟨K.2.1 a cl A.1 (fun hm => absurd ha (Nat.not_lt.mpr (q a hm))), A.2⟩, S, ha, fun j h0 h1 => ?_⟩
  obtain ⟨b, h2, h3, E, F⟩ := M j h0 h1
  exact ⟨b, h2, h3, E.keep K, F.keep K (fun hm => absurd h3 (Nat.not_lt.mpr (q b hm)))⟩
theorem own_LC.ext {Z : State} {h h' : Heap} {a : Addr} {n : Nat} (F : own_LC Z h a n) (E : Ext h h') : own_LC Z h' a n := F.keep ((Keep.refl h []).ext E) all0
theorem own_LC.start {Z : State} {args : Array Value} {C n d : String} {x : Addr} (ev : (Term.static C n d).eval args Z none [] Z = some (.ref x)) (hA : (Cond.arrayOf (.static C n d) (.object "java/lang/Long")).value args Z none Z [] = some true) (hL : (Cond.eq (.length (.static C n d)) (.int 256)).value args Z none Z [] = some true)
    (hall : (Cond.all (.static C n d) (.and (.exactly (.elem (.static C n d) (.index 0)) "java/lang/Long") (.eq (.field (.elem (.static C n d) (.index 0)) "java/lang/Long" "value" "J") (.op1 .i2l (.sub (.index 0) (.int 128)))))).value args Z none Z [] = some true) : own_LC Z Z.heap x Z.heap.size := by
  obtain ⟨cl, A⟩ := Arr.start ev hA
  have L := own_len ev A hL
  have hsz : cl.slots.size = 256 := by
    have h1 := congrArg Int32.toInt L.2
    have h2 : (cl.slots.size.toInt32).toInt = (cl.slots.size : Int) := by
      have := L.1
      exact Int32.toInt_ofNat_of_lt this
    have h3 : (256 : Int32).toInt = 256 := by decide
    omega
  have hat := A.fin (Vm.Alike.refl _)
  refine ⟨cl, A, by rw [hsz]; decide, (Array.getElem?_eq_some_iff.mp A.1).1, fun j h0 h1 => ?_⟩
  have j0 : 0 ≤ j.toInt := by
    have := fun q => h0 (Int32.lt_iff_toInt_lt.mpr q)
    simp at this; exact this
  have j1 : j.toInt < 256 := by
    have := Int32.lt_iff_toInt_lt.mp h1
    simpa using this
  have hj : j.toNatClampNeg = j.toInt.toNat := rfl
  have hm : j.toNatClampNeg < cl.slots.size := by rw [hsz, hj]; omega
  have hj3 : j.toNatClampNeg.toInt32 = j := by
    apply Int32.toInt_inj.mp
    have q : j.toNatClampNeg < 2 ^ 31 := by rw [hj]; omega
    rw [show j.toNatClampNeg.toInt32 = Int32.ofNat j.toNatClampNeg from rfl, Int32.toInt_ofNat_of_lt q, hj]; omega
  have hx := Cond.all_elim ev hat hall _ hm
  have ev' : (Term.static C n d).eval args Z none [j.toNatClampNeg] Z = some (.ref x) := by simpa only [Term.eval] using ev
  have hi : (Term.index 0).eval args Z none [j.toNatClampNeg] Z = some (.int j) := by simp [Term.eval, hj3]
  simp only [Cond.value] at hx
  split at hx
  · rename_i hex
    split at hex
    · rename_i b c0 eb ec
      have hb := (elem_in eb ev' hi A.1).2
      have E : Exa Z Z.heap b "java/lang/Long" := Exa.start (args := #[.ref b]) (t := .arg 0) rfl (by
        simp only [Cond.value, Term.eval]; simpa [ec] using hex)
      refine ⟨b, hb, ?_, E, ?_⟩
      · obtain ⟨c1, k1, h1, -⟩ := E
        exact (Array.getElem?_eq_some_iff.mp h1).1
      · refine Fld.start ?_
        have e2 : (Term.op1 .i2l (.sub (.index 0) (.int 128))).eval args Z none [j.toNatClampNeg] Z = some (.long (j - 128).toInt64) := by
          simp [Term.eval, hj3, Unary.apply]
        rw [e2, fld_at eb] at hx
        cases hv : Z.fieldOf? b "java/lang/Long" "value" "J" with
        | none => simp [hv] at hx
        | some v => cases v <;> simp [hv] at hx ⊢ ; exact hx
    · simp at hex
    · simp at hex
  · rename_i hne; exact absurd hx (hne)
section OwnLong
open Jvm.Free.XT
variable {x y : Int64}
end OwnLong
abbrev own_R (f c s l : Nat) : Room := { frames := f, cells := c, slots := s, locals := l }
abbrev own_MF (l : Launch) (x : MethodName) (cb : ByteArray) (n : Nat) (ret : Option FieldType) (rm : Room) (A : Array Value) (Z : State) (h0 : Heap) (Q : Option Value → Heap → List Loc → Prop) : Prop := MetFree l x (head1 [Cond.code x cb n ret] rm) (fun a U => a = A ∧ Z.Warmed39 U.vm ∧ U.heap = h0) (fun _ _ _ _ _ => True) (fun _ U o U' => ∃ v L, o = .returned v ∧ Q v U'.heap L ∧ FrameEnd U o U' L rm.cells rm.slots)
theorem own_st {l : Launch} {x : MethodName} {cb : ByteArray} {n : Nat} {ret : Option FieldType} {rm : Room} {A : Array Value} {Z : State} {h0 : Heap} {Q : Option Value → Heap → List Loc → Prop} {L : Array Slot} {own : String} (hp : plainFor x = true) (ho : x.cls = own) (ef : ∀ m, entryFrame m A n = mkF m 0 L [])
    (H : ∀ p e s m below meth c s₁, BodyLoose p l x (head1 [Cond.code x cb n ret] rm) cb n ret e s m A below meth c s₁ → c.maxLocals = n → Z.Warmed39 s.vm → s.heap = h0 → p.tables.exec = Jvm.exec → c.code = cb → s.vm.findClass own = some m.cls → meth.name = x.name → Stand p l e rm s m A below meth c s₁ [] 0 0 → s₁.heap = h0 → own_G p.tables e below (fun f o => f.status = .running ∧ Ended f below o ∧ ∃ v L, o = .returned v ∧ Q v f.heap L ∧ FrameEnd s o f L rm.cells rm.slots) (s₁.setTop (mkF m 0 L []))) : own_MF l x cb n ret rm A Z h0 Q := by
  refine MetFree.of_bodySF hp hisR ?_
  intro p e s m args below meth c s₁ Bd hml hP hK
  obtain ⟨rfl, hZ, hh⟩ := hP
  refine own_pre (ef m) (H p e s m below meth c s₁ Bd hml hZ hh Bd.exec Bd.bytes (ho ▸ findClass_of_methodNamed Bd.named) (name_of_methodNamed Bd.named Bd.method).1 (Stand.of_body Bd) ?_)
  rw [← hh, Bd.state]; rfl
section OwnSteps
variable {p : Program} {l : Launch} {e : Env} {R : Room} {s : State} {m : MethodId} {args : Array Value} {below : List Frame} {meth : Method} {c : Code} {T : State} {locs : List Loc} {cells slots : Nat} {bytes : ByteArray} {pc : Nat} {L : Array Slot} {S : List Value} {t : State}

theorem oiload (X : Stand p l e R s m args below meth c T locs cells slots) (hx : p.tables.exec = Jvm.exec) (hby : c.code = bytes) {k : Nat} {v : Int32} (hd : decode bytes pc = .ok (.iload k, 2)) (hl : L[k]? = some (.val (.int v))) (hr : Steps p.tables e below (T.setTop (mkF m (pc + 2) L (.int v :: S))) t) : Steps p.tables e below (T.setTop (mkF m pc L S)) t := XS.iload X.here hx rfl (hb hby hd) hl hr
theorem oiloadN (X : Stand p l e R s m args below meth c T locs cells slots) (hx : p.tables.exec = Jvm.exec) (hby : c.code = bytes) {k : Fin 4} {v : Int32} (hd : decode bytes pc = .ok (.iload_n k, 1)) (hl : L[k.val]? = some (.val (.int v))) (hr : Steps p.tables e below (T.setTop (mkF m (pc + 1) L (.int v :: S))) t) : Steps p.tables e below (T.setTop (mkF m pc L S)) t := XS.iloadN X.here hx rfl (hb hby hd) hl hr
theorem oaload (X : Stand p l e R s m args below meth c T locs cells slots) (hx : p.tables.exec = Jvm.exec) (hby : c.code = bytes) {k : Nat} {v : Value} (hd : decode bytes pc = .ok (.aload k, 2)) (hl : L[k]? = some (.val v)) (hv : v.isRef = true) (hr : Steps p.tables e below (T.setTop (mkF m (pc + 2) L (v :: S))) t) : Steps p.tables e below (T.setTop (mkF m pc L S)) t := XS.aload X.here hx rfl (hb hby hd) hl hv hr
theorem oaloadN (X : Stand p l e R s m args below meth c T locs cells slots) (hx : p.tables.exec = Jvm.exec) (hby : c.code = bytes) {k : Fin 4} {v : Value} (hd : decode bytes pc = .ok (.aload_n k, 1)) (hl : L[k.val]? = some (.val v)) (hv : v.isRef = true) (hr : Steps p.tables e below (T.setTop (mkF m (pc + 1) L (v :: S))) t) : Steps p.tables e below (T.setTop (mkF m pc L S)) t := XS.aloadN X.here hx rfl (hb hby hd) hl hv hr
theorem oistore (X : Stand p l e R s m args below meth c T locs cells slots) (hx : p.tables.exec = Jvm.exec) (hby : c.code = bytes) {k : Nat} {x : Int32} (hd : decode bytes pc = .ok (.istore k, 2)) (l' : Array Slot) (hl : storeLocals L k (.int x) = some l') (hr : Steps p.tables e below (T.setTop (mkF m (pc + 2) l' S)) t) : Steps p.tables e below (T.setTop (mkF m pc L (.int x :: S))) t := XS.istore X.here hx rfl (hb hby hd) rfl hl hr
theorem oistoreN (X : Stand p l e R s m args below meth c T locs cells slots) (hx : p.tables.exec = Jvm.exec) (hby : c.code = bytes) {k : Fin 4} {x : Int32} (hd : decode bytes pc = .ok (.istore_n k, 1)) (l' : Array Slot) (hl : storeLocals L k.val (.int x) = some l') (hr : Steps p.tables e below (T.setTop (mkF m (pc + 1) l' S)) t) : Steps p.tables e below (T.setTop (mkF m pc L (.int x :: S))) t := XS.istoreN X.here hx rfl (hb hby hd) rfl hl hr
theorem oastore (X : Stand p l e R s m args below meth c T locs cells slots) (hx : p.tables.exec = Jvm.exec) (hby : c.code = bytes) {k : Nat} {x : Value} (hd : decode bytes pc = .ok (.astore k, 2)) (l' : Array Slot) (hv : x.isRef = true) (hl : storeLocals L k x = some l') (hr : Steps p.tables e below (T.setTop (mkF m (pc + 2) l' S)) t) : Steps p.tables e below (T.setTop (mkF m pc L (x :: S))) t := XS.astore X.here hx rfl (hb hby hd) rfl hv hl hr
theorem oastoreN (X : Stand p l e R s m args below meth c T locs cells slots) (hx : p.tables.exec = Jvm.exec) (hby : c.code = bytes) {k : Fin 4} {x : Value} (hd : decode bytes pc = .ok (.astore_n k, 1)) (l' : Array Slot) (hv : x.isRef = true) (hl : storeLocals L k.val x = some l') (hr : Steps p.tables e below (T.setTop (mkF m (pc + 1) l' S)) t) : Steps p.tables e below (T.setTop (mkF m pc L (x :: S))) t := XS.astoreN X.here hx rfl (hb hby hd) rfl hv hl hr
theorem oiconst (X : Stand p l e R s m args below meth c T locs cells slots) (hx : p.tables.exec = Jvm.exec) (hby : c.code = bytes) {i : Int} (hd : decode bytes pc = .ok (.iconst i, 1)) (hr : Steps p.tables e below (T.setTop (mkF m (pc + 1) L (.int (Int32.ofInt i) :: S))) t) : Steps p.tables e below (T.setTop (mkF m pc L S)) t := XS.iconst X.here hx rfl (hb hby hd) hr
theorem obipush (X : Stand p l e R s m args below meth c T locs cells slots) (hx : p.tables.exec = Jvm.exec) (hby : c.code = bytes) {i : Int} (hd : decode bytes pc = .ok (.bipush i, 2)) (hr : Steps p.tables e below (T.setTop (mkF m (pc + 2) L (.int (Int8.ofInt i).toInt32 :: S))) t) : Steps p.tables e below (T.setTop (mkF m pc L S)) t := XS.bipush X.here hx rfl (hb hby hd) hr
theorem osipush (X : Stand p l e R s m args below meth c T locs cells slots) (hx : p.tables.exec = Jvm.exec) (hby : c.code = bytes) {i : Int} (hd : decode bytes pc = .ok (.sipush i, 3)) (hr : Steps p.tables e below (T.setTop (mkF m (pc + 3) L (.int (Int16.ofInt i).toInt32 :: S))) t) : Steps p.tables e below (T.setTop (mkF m pc L S)) t := XS.sipush X.here hx rfl (hb hby hd) hr
theorem onull (X : Stand p l e R s m args below meth c T locs cells slots) (hx : p.tables.exec = Jvm.exec) (hby : c.code = bytes) (hd : decode bytes pc = .ok (.aconst_null, 1)) (hr : Steps p.tables e below (T.setTop (mkF m (pc + 1) L (.null :: S))) t) : Steps p.tables e below (T.setTop (mkF m pc L S)) t := XS.aconstNull X.here hx rfl (hb hby hd) hr
theorem oisub (X : Stand p l e R s m args below meth c T locs cells slots) (hx : p.tables.exec = Jvm.exec) (hby : c.code = bytes) {x y : Int32} (hd : decode bytes pc = .ok (.isub, 1)) (hr : Steps p.tables e below (T.setTop (mkF m (pc + 1) L (.int (x - y) :: S))) t) : Steps p.tables e below (T.setTop (mkF m pc L (.int y :: .int x :: S))) t := XS.isub X.here hx rfl (hb hby hd) rfl hr
theorem oiand (X : Stand p l e R s m args below meth c T locs cells slots) (hx : p.tables.exec = Jvm.exec) (hby : c.code = bytes) {x y : Int32} (hd : decode bytes pc = .ok (.iand, 1)) (hr : Steps p.tables e below (T.setTop (mkF m (pc + 1) L (.int (x &&& y) :: S))) t) : Steps p.tables e below (T.setTop (mkF m pc L (.int y :: .int x :: S))) t := XS.iand X.here hx rfl (hb hby hd) rfl hr
theorem oiushr (X : Stand p l e R s m args below meth c T locs cells slots) (hx : p.tables.exec = Jvm.exec) (hby : c.code = bytes) {x y : Int32} (hd : decode bytes pc = .ok (.iushr, 1)) (hr : Steps p.tables e below (T.setTop (mkF m (pc + 1) L (.int ((x.toUInt32 >>> (y &&& 31).toUInt32).toInt32) :: S))) t) : Steps p.tables e below (T.setTop (mkF m pc L (.int y :: .int x :: S))) t := XS.iushr X.here hx rfl (hb hby hd) rfl hr
theorem oi2b (X : Stand p l e R s m args below meth c T locs cells slots) (hx : p.tables.exec = Jvm.exec) (hby : c.code = bytes) {x : Int32} (hd : decode bytes pc = .ok (.i2b, 1)) (hr : Steps p.tables e below (T.setTop (mkF m (pc + 1) L ((.int (x.toInt8.toInt32)) :: S))) t) : Steps p.tables e below (T.setTop (mkF m pc L (.int x :: S))) t := XS.i2b X.here hx rfl (hb hby hd) rfl hr
theorem oi2c (X : Stand p l e R s m args below meth c T locs cells slots) (hx : p.tables.exec = Jvm.exec) (hby : c.code = bytes) {x : Int32} (hd : decode bytes pc = .ok (.i2c, 1)) (hr : Steps p.tables e below (T.setTop (mkF m (pc + 1) L ((.int (x.toUInt32.toUInt16.toUInt32.toInt32)) :: S))) t) : Steps p.tables e below (T.setTop (mkF m pc L (.int x :: S))) t := XS.i2c X.here hx rfl (hb hby hd) rfl hr
theorem oirem (X : Stand p l e R s m args below meth c T locs cells slots) (hx : p.tables.exec = Jvm.exec) (hby : c.code = bytes) {x y : Int32} (hd : decode bytes pc = .ok (.irem, 1)) (hy : y ≠ 0) (hr : Steps p.tables e below (T.setTop (mkF m (pc + 1) L (.int (x % y) :: S))) t) : Steps p.tables e below (T.setTop (mkF m pc L (.int y :: .int x :: S))) t := iremM X hx rfl (hb hby hd) rfl hy hr
theorem oiinc (X : Stand p l e R s m args below meth c T locs cells slots) (hx : p.tables.exec = Jvm.exec) (hby : c.code = bytes) {k : Nat} {z : Int} {x : Int32} (hd : decode bytes pc = .ok (.iinc k z, 3)) (l' : Array Slot) (hl : L[k]? = some (.val (.int x))) (hl' : storeLocals L k (.int (x + Int32.ofInt z)) = some l') (hr : Steps p.tables e below (T.setTop (mkF m (pc + 3) l' S)) t) : Steps p.tables e below (T.setTop (mkF m pc L S)) t := XS.iinc X.here hx rfl (hb hby hd) hl hl' hr
theorem odup (X : Stand p l e R s m args below meth c T locs cells slots) (hx : p.tables.exec = Jvm.exec) (hby : c.code = bytes) {x : Value} (hd : decode bytes pc = .ok (.dup, 1)) (hc : x.category = 1) (hr : Steps p.tables e below (T.setTop (mkF m (pc + 1) L (x :: x :: S))) t) : Steps p.tables e below (T.setTop (mkF m pc L (x :: S))) t := XS.dup X.here hx rfl (hb hby hd) rfl hc hr
theorem ogoto (X : Stand p l e R s m args below meth c T locs cells slots) (hx : p.tables.exec = Jvm.exec) (hby : c.code = bytes) {o : Int} (hd : decode bytes pc = .ok (.goto o, 3)) (pc' : Nat) (hp : 0 ≤ (pc : Int) + o ∧ ((pc : Int) + o).toNat = pc') (hr : Steps p.tables e below (T.setTop (mkF m pc' L S)) t) : Steps p.tables e below (T.setTop (mkF m pc L S)) t := XS.goto X.here hx rfl rfl (hb hby hd) hp.1 hp.2 hr
theorem oifY (X : Stand p l e R s m args below meth c T locs cells slots) (hx : p.tables.exec = Jvm.exec) (hby : c.code = bytes) {cd : ClassFile.Cond} {x : Int32} {o : Int} (hd : decode bytes pc = .ok (.ifCond cd o, 3)) (pc' : Nat) (hc : ifCond.holds cd x = true) (hp : 0 ≤ (pc : Int) + o ∧ ((pc : Int) + o).toNat = pc') (hr : Steps p.tables e below (T.setTop (mkF m pc' L S)) t) : Steps p.tables e below (T.setTop (mkF m pc L (.int x :: S))) t := XS.ifYes X.here hx rfl rfl (hb hby hd) rfl hc hp.1 hp.2 hr
theorem oifN (X : Stand p l e R s m args below meth c T locs cells slots) (hx : p.tables.exec = Jvm.exec) (hby : c.code = bytes) {cd : ClassFile.Cond} {x : Int32} {o : Int} (hd : decode bytes pc = .ok (.ifCond cd o, 3)) (hc : ifCond.holds cd x = false) (hr : Steps p.tables e below (T.setTop (mkF m (pc + 3) L S)) t) : Steps p.tables e below (T.setTop (mkF m pc L (.int x :: S))) t := XS.ifNo X.here hx rfl (hb hby hd) rfl hc hr
theorem oicY (X : Stand p l e R s m args below meth c T locs cells slots) (hx : p.tables.exec = Jvm.exec) (hby : c.code = bytes) {cd : ClassFile.Cond} {x y : Int32} {o : Int} (hd : decode bytes pc = .ok (.if_icmp cd o, 3)) (pc' : Nat) (hc : if_icmp.holds cd x y = true) (hp : 0 ≤ (pc : Int) + o ∧ ((pc : Int) + o).toNat = pc') (hr : Steps p.tables e below (T.setTop (mkF m pc' L S)) t) : Steps p.tables e below (T.setTop (mkF m pc L (.int y :: .int x :: S))) t := XS.icmpYes X.here hx rfl rfl (hb hby hd) rfl hc hp.1 hp.2 hr
theorem oicN (X : Stand p l e R s m args below meth c T locs cells slots) (hx : p.tables.exec = Jvm.exec) (hby : c.code = bytes) {cd : ClassFile.Cond} {x y : Int32} {o : Int} (hd : decode bytes pc = .ok (.if_icmp cd o, 3)) (hc : if_icmp.holds cd x y = false) (hr : Steps p.tables e below (T.setTop (mkF m (pc + 3) L S)) t) : Steps p.tables e below (T.setTop (mkF m pc L (.int y :: .int x :: S))) t := XS.icmpNo X.here hx rfl (hb hby hd) rfl hc hr
theorem oacmp (X : Stand p l e R s m args below meth c T locs cells slots) (hx : p.tables.exec = Jvm.exec) (hby : c.code = bytes) {cd : ACond} {x y : Value} {o : Int} (hd : decode bytes pc = .ok (.if_acmp cd o, 3)) (pc' : Nat) {same : Bool} (h1 : x.isRef = true) (h2 : y.isRef = true) (hq : decide (x = y) = same) (hp : 0 ≤ (pc : Int) + o ∧ pc' = if acV cd same = true then ((pc : Int) + o).toNat else pc + 3) (hr : Steps p.tables e below (T.setTop (mkF m pc' L S)) t) : Steps p.tables e below (T.setTop (mkF m pc L (y :: x :: S))) t := Jvm.RoadKit.acmp X hx rfl h1 h2 rfl (hb hby hd) rfl hq hp.1 hp.2 hr
theorem onnY (X : Stand p l e R s m args below meth c T locs cells slots) (hx : p.tables.exec = Jvm.exec) (hby : c.code = bytes) {o : Int} {a : Addr} (hd : decode bytes pc = .ok (.ifnonnull o, 3)) (pc' : Nat) (hp : 0 ≤ (pc : Int) + o ∧ ((pc : Int) + o).toNat = pc') (hr : Steps p.tables e below (T.setTop (mkF m pc' L S)) t) : Steps p.tables e below (T.setTop (mkF m pc L (.ref a :: S))) t := XS.ifnonnullYes X.here hx rfl rfl (hb hby hd) rfl hp.1 hp.2 hr
end OwnSteps
section OwnCalls
variable {p : Program} {l : Launch} {e : Env} {R : Room} {s : State} {m : MethodId} {args : Array Value} {below : List Frame} {meth : Method} {c : Code} {T : State} {locs : List Loc} {cells slots : Nat} {Z : State} {a0 : Array Value} {h : Heap} {bytes : ByteArray}
theorem ocallS (X : Stand p l e R s m args below meth c T locs cells slots) (hx : p.tables.exec = Jvm.exec) (hZ : Z.Warmed39 s.vm) {cb : ByteArray} {maxL : Nat} {ret : Option FieldType} {rm : Room} {Q : Option Value → Heap → List Loc → Prop} {argsL rest : List Value} {index : Nat} {own : String} (y : MethodName) (hown : s.vm.findClass own = some m.cls) (w1 : (Cond.methodLink own index y).before a0 Z = true) (w2 : (Cond.static y).before a0 Z = true) (hy : y.cls ≠ "java/lang/invoke/MethodHandle" ∧ y.cls ≠ "java/lang/invoke/VarHandle") (w5 : (Cond.code y cb maxL ret).before a0 Z = true) (w6 : (Cond.initialized y.cls).before a0 Z = true) (eT : T.heap = h) (hM : own_MF l y cb maxL ret rm argsL.toArray Z h Q) {st : List Value} (hst : st = argsL.reverse ++ rest) (W : Nat) (hW : (rest.map fun v => v.category).sum = W) (hroom : rm.frames + 1 ≤ R.frames ∧ W + (maxL + 11) + rm.locals ≤ R.locals ∧ cells + rm.cells ≤ R.cells ∧ slots + rm.slots ≤ R.slots) {pc : Nat} {Ls : Array Slot} {nl : Nat} (hml : c.maxLocals = nl) (hsz : Ls.size = nl) (hlen : ∀ sig, parseMethodDescriptor y.desc = some sig → argsL.length = sig.parameters.length) (hd : decode bytes pc = .ok (.invokestatic index, 3)) (hby : c.code = bytes) : ∃ v T' L, Stand p l e R s m args below meth c T' (locs ++ L) (cells + rm.cells) (slots + rm.slots) ∧ Q v T'.heap L ∧ ∀ t, Steps p.tables e below (T'.setTop (mkF m (pc + 3) Ls (v.toList ++ rest))) t → Steps p.tables e below (T.setTop (mkF m pc Ls st)) t := by
  subst hst
  obtain ⟨_, _, ⟨T1, L1, k1, n1⟩, -, X1, ⟨Lc1, hQ1, l1, y1, z1⟩, st1⟩ := Jvm.LawKit.callS X hx hown (mvT hZ w1) (mvT hZ w2) (mvT hZ w6) (mvT hZ w5) hy (backOf (W := W) hM hZ w5 w6 hroom.1 hroom.2.1) (g := mkF m pc Ls (argsL.reverse ++ rest)) rfl (hsz.trans hml.symm) (argsL := argsL) (rest := rest) hlen rfl (by show 2 * 0 + _ ≤ _; rw [Nat.mul_zero, Nat.zero_add]; exact Nat.le_of_eq hW) (hb hby hd) (fun _ _ => ⟨rfl, eT, hroom.2.2.1, hroom.2.2.2⟩)
  dsimp only [Pt.U, Pt.locs, Pt.cells, Pt.slots] at X1 l1 y1 z1 st1 hQ1
  subst l1 y1 z1
  exact ⟨_, _, _, X1, hQ1, st1⟩
theorem ocallI (X : Stand p l e R s m args below meth c T locs cells slots) (hx : p.tables.exec = Jvm.exec) (hZ : Z.Warmed39 s.vm) {cb : ByteArray} {maxL : Nat} {rm : Room} {Q : Option Value → Heap → List Loc → Prop} {argsL rest : List Value} {index : Nat} {own : String} (y : MethodName) (hn : y.name = "<init>") (hown : s.vm.findClass own = some m.cls) (w1 : (Cond.methodLink own index y).before a0 Z = true) (w2 : (Cond.instanceMethod y).before a0 Z = true) (hy : y.cls ≠ "java/lang/invoke/MethodHandle" ∧ y.cls ≠ "java/lang/invoke/VarHandle") (w5 : (Cond.code y cb maxL none).before a0 Z = true) (w6 : (Cond.initialized y.cls).before a0 Z = true) (eT : T.heap = h) {b : Addr} (hM : own_MF l y cb maxL none rm (.ref b :: argsL).toArray Z h Q) {st : List Value} (hst : st = argsL.reverse ++ .ref b :: rest) (W : Nat) (hW : (rest.map fun v => v.category).sum = W) (hroom : rm.frames + 1 ≤ R.frames ∧ W + (maxL + 11) + rm.locals ≤ R.locals ∧ cells + rm.cells ≤ R.cells ∧ slots + rm.slots ≤ R.slots) {pc : Nat} {Ls : Array Slot} {nl : Nat} (hml : c.maxLocals = nl) (hsz : Ls.size = nl) (hlen : ∀ sig, parseMethodDescriptor y.desc = some sig → argsL.length = sig.parameters.length) (hd : decode bytes pc = .ok (.invokespecial index, 3)) (hby : c.code = bytes) : ∃ v T' L, Stand p l e R s m args below meth c T' (locs ++ L) (cells + rm.cells) (slots + rm.slots) ∧ Q v T'.heap L ∧ ∀ t, Steps p.tables e below (T'.setTop (mkF m (pc + 3) Ls (v.toList ++ rest))) t → Steps p.tables e below (T.setTop (mkF m pc Ls st)) t := by
  subst hst
  obtain ⟨_, _, ⟨T1, L1, k1, n1⟩, -, X1, ⟨Lc1, hQ1, l1, y1, z1⟩, st1⟩ := X.specialBack hx hn hown (mvT hZ w1) (mvT hZ w2) (mvT hZ w5) hy (backOf (W := W) hM hZ w5 w6 hroom.1 hroom.2.1) (g := mkF m pc Ls (argsL.reverse ++ .ref b :: rest)) rfl (hsz.trans hml.symm) (Steps.refl _) (a := b) (argsL := argsL) (rest := rest) hlen rfl (by show 2 * 0 + _ ≤ _; rw [Nat.mul_zero, Nat.zero_add]; exact Nat.le_of_eq hW) (hb hby hd) (fun _ _ => ⟨rfl, eT, hroom.2.2.1, hroom.2.2.2⟩)
  dsimp only [Pt.U, Pt.locs, Pt.cells, Pt.slots] at X1 l1 y1 z1 st1 hQ1
  subst l1 y1 z1
  exact ⟨_, _, _, X1, hQ1, fun _ k => st1.trans k⟩
theorem own_backH {EL : List (String × Nat)} {SL : List Addr} {vm0 : Vm} {y : MethodName} {cb : ByteArray} {maxL : Nat} {ret : Option FieldType} {rm : Room} {len W : Nat} {as' : Array Value} {Q : Option Value → Heap → List Loc → Prop} (hM : MetFree l y (head1 [Cond.code y cb maxL ret] rm) (fun a U => a = as' ∧ Z.Warmed39 U.vm ∧ U.heap = h ∧ CHv Z EL U.vm h ∧ ∀ x ∈ SL, Safe Z EL U.vm h x) (fun _ _ _ _ _ => True) (fun _ U o U' => ∃ v L, o = .returned v ∧ Q v U'.heap L ∧ CHr Z EL U.vm U.heap U'.vm U'.heap ∧ ReturnedEndW U o U' L rm.cells rm.slots))
    (hZ : Z.Warmed39 vm0) (wc : (Cond.code y cb maxL ret).before a0 Z = true) (wz : (Cond.initialized y.cls).before a0 Z = true) (hf : rm.frames + 1 ≤ R.frames) (hl : W + (maxL + 11) + rm.locals ≤ R.locals) (hEL : EW Z a0 EL) (H : CHv Z EL vm0 h) (hSL : ∀ x ∈ SL, x < h.size ∧ Safe Z EL vm0 h x) :
    BackS l R p e below (s.setVm vm0) args y len W (fun A a => a = as' ∧ A.U.heap = h ∧ A.cells + rm.cells ≤ R.cells ∧ A.slots + rm.slots ≤ R.slots)
      (fun A _ v B => ∃ L, Q v B.U.heap L ∧ B.locs = A.locs ++ L ∧ B.cells = A.cells + rm.cells ∧ B.slots = A.slots + rm.slots ∧ CHr Z EL vm0 h B.U.vm B.U.heap) :=
  BackS.of_freeW (bytes := cb) (maxL := maxL) (ret := ret) (E := fun _ first o t L k n => k = rm.cells ∧ n = rm.slots ∧ (∃ v, o = .returned v ∧ Q v t.heap L) ∧ CHr Z EL first.vm first.heap t.vm t.heap) hM hf hl
    (fun m meth c A a Y hp => have hU : Z.Warmed39 A.U.vm := wtrans (s := s.setVm vm0) hZ Y.warmed
      ⟨by show (Cond.and _ .tt).before a A.U = true; rw [Cond.before_and, mv hU wc]; rfl, mv hU wc, mv hU wz, hp.2.2.1, hp.2.2.2⟩)
    (fun m meth c A a g mk Y hp => ⟨hp.1, wtrans (s := s.setVm vm0) hZ Y.warmed, hp.2.1, (CHv.at Y hZ hEL H).1, fun x hx => (CHv.at Y hZ hEL H).safe (hSL x hx).1 (hSL x hx).2⟩) (fun _ _ _ _ _ _ _ _ _ => trivial)
    (fun _ _ _ _ ⟨v, L, h1, h2, h3, h4⟩ => ⟨L, _, _, h4, rfl, rfl, ⟨v, h1, h2⟩, h3⟩)
    (fun m meth c A a g mk v t L k n Y hp _ _ ⟨e1, e2, ⟨v', e3, e4⟩, e5⟩ => by
      cases e3; subst e1 e2
      refine ⟨L, e4, rfl, rfl, rfl, (CHv.at Y hZ hEL H).trans ?_⟩
      rw [← hp.2.1]; exact e5)
theorem ocallIH {vm0 : Vm} {k0 : Nat} {EL : List (String × Nat)} {SL : List Addr} (X : Stand p l e R (s.setVm vm0) m args below meth c T locs cells slots) (hx : p.tables.exec = Jvm.exec) (hZ : Z.Warmed39 (s.setVm vm0).vm) {cb : ByteArray} {maxL : Nat} {rm : Room} {Q : Option Value → Heap → List Loc → Prop} {argsL rest : List Value} {index : Nat} {own : String} (y : MethodName) (hn : y.name = "<init>") (hown : (s.setVm vm0).vm.findClass own = some m.cls) (w1 : (Cond.methodLink own index y).before a0 Z = true) (w2 : (Cond.instanceMethod y).before a0 Z = true) (hy : y.cls ≠ "java/lang/invoke/MethodHandle" ∧ y.cls ≠ "java/lang/invoke/VarHandle") (w5 : (Cond.code y cb maxL none).before a0 Z = true) (w6 : (Cond.initialized y.cls).before a0 Z = true) (eT : T.heap = h) {b : Addr} (hM : MetFree l y (head1 [Cond.code y cb maxL none] rm) (fun a U => a = (.ref b :: argsL).toArray ∧ Z.Warmed39 U.vm ∧ U.heap = h ∧ CHv Z EL U.vm h ∧ ∀ x ∈ SL, Safe Z EL U.vm h x) (fun _ _ _ _ _ => True) (fun _ U o U' => ∃ v L, o = .returned v ∧ Q v U'.heap L ∧ CHr Z EL U.vm U.heap U'.vm U'.heap ∧ ReturnedEndW U o U' L rm.cells rm.slots)) {st : List Value} (hst : st = argsL.reverse ++ .ref b :: rest) (W : Nat) (hW : (rest.map fun v => v.category).sum = W) (hroom : rm.frames + 1 ≤ R.frames ∧ W + (maxL + 11) + rm.locals ≤ R.locals ∧ cells + rm.cells ≤ R.cells ∧ slots + rm.slots ≤ R.slots) {pc : Nat} {Ls : Array Slot} {nl : Nat} (hml : c.maxLocals = nl) (hsz : Ls.size = nl) (hlen : ∀ sig, parseMethodDescriptor y.desc = some sig → argsL.length = sig.parameters.length) (hd : decode bytes pc = .ok (.invokespecial index, 3)) (hby : c.code = bytes) (hS : s.Since vm0 k0) (hk : k0 ≤ h.size) (hEL : EW Z a0 EL) (H : CHv Z EL vm0 h) (hSL : ∀ x ∈ SL, x < h.size ∧ Safe Z EL vm0 h x) : ∃ v T' L, Stand p l e R (s.setVm T'.vm) m args below meth c T' (locs ++ L) (cells + rm.cells) (slots + rm.slots) ∧ Q v T'.heap L ∧ s.Since T'.vm T'.heap.size ∧ Z.Warmed39 (s.setVm T'.vm).vm ∧ (s.setVm T'.vm).vm.findClass own = some m.cls ∧ CHr Z EL vm0 h T'.vm T'.heap ∧ ∀ t, Steps p.tables e below (T'.setTop (mkF m (pc + 3) Ls (v.toList ++ rest))) t → Steps p.tables e below (T.setTop (mkF m pc Ls st)) t := by
  subst hst
  obtain ⟨_, _, ⟨T1, L1, k1, n1⟩, -, X1, S1, G1, ⟨Lc1, hQ1, l1, y1, z1, C1⟩, st1⟩ := X.specialBackS hx hn hown (mvT hZ w1) (mvT hZ w2) (mvT hZ w5) hy (own_backH (W := W) hM hZ w5 w6 hroom.1 hroom.2.1 hEL H hSL) (g := mkF m pc Ls (argsL.reverse ++ .ref b :: rest)) rfl (hsz.trans hml.symm) (Steps.refl _) (a := b) (argsL := argsL) (rest := rest) hlen rfl (by show 2 * 0 + _ ≤ _; rw [Nat.mul_zero, Nat.zero_add]; exact Nat.le_of_eq hW) (hb hby hd) (fun _ _ => ⟨rfl, eT, hroom.2.2.1, hroom.2.2.2⟩)
  dsimp only [Pt.U, Pt.locs, Pt.cells, Pt.slots] at X1 S1 G1 l1 y1 z1 st1 hQ1
  subst l1 y1 z1
  obtain ⟨Y1, Y2, Y3, Y4⟩ := rebS (T := T1) hS (by rw [eT]; exact hk) X1 S1 G1 hZ hown
  exact ⟨_, _, _, Y1, hQ1, Y2, Y3, Y4, C1, fun _ k => st1.trans k⟩
theorem ocallSH {vm0 : Vm} {k0 : Nat} {EL : List (String × Nat)} {SL : List Addr} (X : Stand p l e R (s.setVm vm0) m args below meth c T locs cells slots) (hx : p.tables.exec = Jvm.exec) (hZ : Z.Warmed39 (s.setVm vm0).vm) {cb : ByteArray} {maxL : Nat} {ret : Option FieldType} {rm : Room} {Q : Option Value → Heap → List Loc → Prop} {argsL rest : List Value} {index : Nat} {own : String} (y : MethodName) (hown : (s.setVm vm0).vm.findClass own = some m.cls) (w1 : (Cond.methodLink own index y).before a0 Z = true) (w2 : (Cond.static y).before a0 Z = true) (hy : y.cls ≠ "java/lang/invoke/MethodHandle" ∧ y.cls ≠ "java/lang/invoke/VarHandle") (w5 : (Cond.code y cb maxL ret).before a0 Z = true) (w6 : (Cond.initialized y.cls).before a0 Z = true) (eT : T.heap = h) (hM : MetFree l y (head1 [Cond.code y cb maxL ret] rm) (fun a U => a = argsL.toArray ∧ Z.Warmed39 U.vm ∧ U.heap = h ∧ CHv Z EL U.vm h ∧ ∀ x ∈ SL, Safe Z EL U.vm h x) (fun _ _ _ _ _ => True) (fun _ U o U' => ∃ v L, o = .returned v ∧ Q v U'.heap L ∧ CHr Z EL U.vm U.heap U'.vm U'.heap ∧ ReturnedEndW U o U' L rm.cells rm.slots)) {st : List Value} (hst : st = argsL.reverse ++ rest) (W : Nat) (hW : (rest.map fun v => v.category).sum = W) (hroom : rm.frames + 1 ≤ R.frames ∧ W + (maxL + 11) + rm.locals ≤ R.locals ∧ cells + rm.cells ≤ R.cells ∧ slots + rm.slots ≤ R.slots) {pc : Nat} {Ls : Array Slot} {nl : Nat} (hml : c.maxLocals = nl) (hsz : Ls.size = nl) (hlen : ∀ sig, parseMethodDescriptor y.desc = some sig → argsL.length = sig.parameters.length) (hd : decode bytes pc = .ok (.invokestatic index, 3)) (hby : c.code = bytes) (hS : s.Since vm0 k0) (hk : k0 ≤ h.size) (hEL : EW Z a0 EL) (H : CHv Z EL vm0 h) (hSL : ∀ x ∈ SL, x < h.size ∧ Safe Z EL vm0 h x) : ∃ v T' L, Stand p l e R (s.setVm T'.vm) m args below meth c T' (locs ++ L) (cells + rm.cells) (slots + rm.slots) ∧ Q v T'.heap L ∧ s.Since T'.vm T'.heap.size ∧ Z.Warmed39 (s.setVm T'.vm).vm ∧ (s.setVm T'.vm).vm.findClass own = some m.cls ∧ CHr Z EL vm0 h T'.vm T'.heap ∧ ∀ t, Steps p.tables e below (T'.setTop (mkF m (pc + 3) Ls (v.toList ++ rest))) t → Steps p.tables e below (T.setTop (mkF m pc Ls st)) t := by
  subst hst
  obtain ⟨_, _, ⟨T1, L1, k1, n1⟩, -, X1, S1, G1, ⟨Lc1, hQ1, l1, y1, z1, C1⟩, st1⟩ := callSS X hx hown (mvT hZ w1) (mvT hZ w2) (mvT hZ w6) (mvT hZ w5) hy (own_backH (W := W) hM hZ w5 w6 hroom.1 hroom.2.1 hEL H hSL) (g := mkF m pc Ls (argsL.reverse ++ rest)) rfl (hsz.trans hml.symm) (argsL := argsL) (rest := rest) hlen rfl (by show 2 * 0 + _ ≤ _; rw [Nat.mul_zero, Nat.zero_add]; exact Nat.le_of_eq hW) (hb hby hd) (fun _ _ => ⟨rfl, eT, hroom.2.2.1, hroom.2.2.2⟩)
  dsimp only [Pt.U, Pt.locs, Pt.cells, Pt.slots] at X1 S1 G1 l1 y1 z1 st1 hQ1
  subst l1 y1 z1
  obtain ⟨Y1, Y2, Y3, Y4⟩ := rebS (T := T1) hS (by rw [eT]; exact hk) X1 S1 G1 hZ hown
  exact ⟨_, _, _, Y1, hQ1, Y2, Y3, Y4, C1, fun _ k => st1.trans k⟩
theorem ocallV (X : Stand p l e R s m args below meth c T locs cells slots) (hx : p.tables.exec = Jvm.exec) (hZ : Z.Warmed39 s.vm) {cb : ByteArray} {maxL : Nat} {ret : Option FieldType} {rm : Room} {Q : Option Value → Heap → List Loc → Prop} {argsL rest : List Value} {index : Nat} {own : String} {C : String} (y z : MethodName) (hown : s.vm.findClass own = some m.cls) (w1 : (Cond.methodLink own index y).before a0 Z = true) (w2 : (Cond.declares y).before a0 Z = true) (nf : NotFace s y) (w4 : (Cond.selects C y z).before a0 Z = true) (w3 : (Cond.instanceMethod z).before a0 Z = true) (hy : y.cls ≠ "java/lang/invoke/MethodHandle" ∧ y.cls ≠ "java/lang/invoke/VarHandle") (w5 : (Cond.code z cb maxL ret).before a0 Z = true) (w6 : (Cond.initialized z.cls).before a0 Z = true) (eT : T.heap = h) {b : Addr} (E : Exa Z h b C) (hM : own_MF l z cb maxL ret rm (.ref b :: argsL).toArray Z h Q) {st : List Value} (hst : st = argsL.reverse ++ .ref b :: rest) (W : Nat) (hW : (rest.map fun v => v.category).sum = W) (hroom : rm.frames + 1 ≤ R.frames ∧ W + (maxL + 11) + rm.locals ≤ R.locals ∧ cells + rm.cells ≤ R.cells ∧ slots + rm.slots ≤ R.slots) {pc : Nat} {Ls : Array Slot} {nl : Nat} (hml : c.maxLocals = nl) (hsz : Ls.size = nl) (hlen : ∀ sig, parseMethodDescriptor y.desc = some sig → argsL.length = sig.parameters.length) (hd : decode bytes pc = .ok (.invokevirtual index, 3)) (hby : c.code = bytes) : ∃ v T' L, Stand p l e R s m args below meth c T' (locs ++ L) (cells + rm.cells) (slots + rm.slots) ∧ Q v T'.heap L ∧ ∀ t, Steps p.tables e below (T'.setTop (mkF m (pc + 3) Ls (v.toList ++ rest))) t → Steps p.tables e below (T.setTop (mkF m pc Ls st)) t := by
  subst hst
  obtain ⟨cq, kq, qa, qb, qc⟩ := isOf hZ eT E
  obtain ⟨_, _, ⟨T1, L1, k1, n1⟩, -, X1, ⟨Lc1, hQ1, l1, y1, z1⟩, st1⟩ := X.virtualBack hx hown (mvT hZ w1) (mvT hZ w2) nf (mvT hZ w4) (mvT hZ w3) hy (backOf (W := W) hM hZ w5 w6 hroom.1 hroom.2.1) qa qc (g := mkF m pc Ls (argsL.reverse ++ .ref b :: rest)) rfl (hsz.trans hml.symm) (Steps.refl _) (argsL := argsL) (rest := rest) hlen rfl (by show 2 * 0 + _ ≤ _; rw [Nat.mul_zero, Nat.zero_add]; exact Nat.le_of_eq hW) (hb hby hd) (fun _ _ => ⟨rfl, eT, hroom.2.2.1, hroom.2.2.2⟩)
  dsimp only [Pt.U, Pt.locs, Pt.cells, Pt.slots] at X1 l1 y1 z1 st1 hQ1
  subst l1 y1 z1
  exact ⟨_, _, _, X1, hQ1, fun _ k => st1.trans k⟩
end OwnCalls
end Jvm.RoadKit
namespace Jvm.Pilot.@@N@@
open Jvm Jvm.ClassFile Sem Op Lib Jvm.Free Jvm.Stand Jvm.LawKit Jvm.RoadKit Bundle Jvm.Pilot.@@N@@.Jvm.D
set_option maxRecDepth 65536
set_option maxHeartbeats 40000000
abbrev own_W (Z : State) (a0 : Array Value) : Prop := ∀ d ∈ tables_1, d.before a0 Z = true
theorem ww {Z : State} {a0 : Array Value} (hw : ∀ d ∈ tables_1, d.before a0 Z = true) (i : Nat) {d : Jvm.Cond} (h : tables_1[i]? = some d) : d.before a0 Z = true := hw d (List.mem_of_getElem? h)
theorem own_wS {Z : State} {a0 : Array Value} (hw : ∀ d ∈ tables_1, d.before a0 Z = true) : ∀ a ∈ Bundle.stringAtoms, a.before a0 Z = true := by
  intro a ha
  simp only [Bundle.stringAtoms, List.mem_cons, List.not_mem_nil, or_false] at ha
  rcases ha with rfl | rfl | rfl | rfl | rfl | rfl | rfl
  · exact (ww hw 6 rfl)
  · exact (ww hw 5 rfl)
  · exact (ww hw 19 rfl)
  · exact (ww hw 20 rfl)
  · exact (ww hw 21 rfl)
  · exact (ww hw 22 rfl)
  · exact (ww hw 23 rfl)
set_option maxRecDepth 65536 in
theorem own_EW {Z : State} {a0 : Array Value} (hw : ∀ d ∈ tables_1, d.before a0 Z = true) : EW Z a0 consts_1 := (EW.cons (ww hw 39 rfl) (by decide) (EW.cons (ww hw 48 rfl) (by decide) (EW.cons (ww hw 52 rfl) (by decide) (EW.cons (ww hw 18 rfl) (by decide) EW.nil))))
def QLaw (n0 : Nat) (v : Option Value) (h : Heap) (L : List Loc) : Prop := v = some (.int (1 : Int32)) ∧ Fr n0 L

def own_Str (Z : State) (h : Heap) (a : Addr) (n c0 c1 : Int32) : Prop := Exa Z h a "java/lang/String" ∧ ∃ (v : Addr) (k : ClassId), Fld Z h a "java/lang/String" "coder" "B" (.int 0) ∧ Fld Z h a "java/lang/String" "value" "[B" (.ref v) ∧ ((n = (0 : Int32) ∧ Arv Z h v k .byte (0 : Int32) [] (.int (0 : Int32))) ∨ (n = (1 : Int32) ∧ Arv Z h v k .byte (1 : Int32) [(.int (c0.toInt8.toInt32))] (.int (0 : Int32))) ∨ (n = (2 : Int32) ∧ Arv Z h v k .byte (2 : Int32) [(.int (c0.toInt8.toInt32)), (.int (c1.toInt8.toInt32))] (.int (0 : Int32))))
section OwnStr
variable {Z : State} {h h' : Heap} {a : Addr} {n c0 c1 : Int32} {ws : List Addr}
theorem own_Str.E (F : own_Str Z h a n c0 c1) : Exa Z h a "java/lang/String" := F.1
theorem own_Str.keep (F : own_Str Z h a n c0 c1) (K : Keep h h' ws) (q : ∀ x ∈ ws, ∃ (C : String) (i : Nat) (a0 : Array Value), Exa Z h x C ∧ C ≠ "java/lang/String" ∧ (Cond.instantiable C i).before a0 Z = true) : own_Str Z h' a n c0 c1 := by
  obtain ⟨E, v, k, f1, f2, f3⟩ := F
  have na : a ∉ ws := fun hm => by
    obtain ⟨C, i, a0, e, ne, -⟩ := q a hm
    exact Exa.ne e E ne rfl
  have nv : ∀ {z : Int32} {vs : List Value} {dv : Value}, Arv Z h v k .byte z vs dv → v ∉ ws := fun A hm => by
    obtain ⟨C, i, a0, e, -, w⟩ := q v hm
    exact Exa.neArv e A w rfl
  refine ⟨E.keep K, v, k, f1.keep K na, f2.keep K na, ?_⟩
  rcases f3 with ⟨e, A⟩ | ⟨e, A⟩ | ⟨e, A⟩
  · exact Or.inl ⟨e, A.keep K (nv A)⟩
  · exact Or.inr (Or.inl ⟨e, A.keep K (nv A)⟩)
  · exact Or.inr (Or.inr ⟨e, A.keep K (nv A)⟩)
theorem own_Str.ext (F : own_Str Z h a n c0 c1) (E : Ext h h') : own_Str Z h' a n c0 c1 := F.keep ((Keep.refl h []).ext E) all0
theorem own_Str.at0 (F : own_Str Z h a n c0 c1) (q : n = (0 : Int32)) : ∃ (v : Addr) (k : ClassId), Fld Z h a "java/lang/String" "coder" "B" (.int 0) ∧ Fld Z h a "java/lang/String" "value" "[B" (.ref v) ∧ Arv Z h v k .byte (0 : Int32) [] (.int (0 : Int32)) := by
  obtain ⟨E, v, k, f1, f2, f3⟩ := F
  rcases f3 with ⟨e, A⟩ | ⟨e, A⟩ | ⟨e, A⟩
  · exact ⟨v, k, f1, f2, A⟩
  · exact absurd (q.symm.trans e) (by decide)
  · exact absurd (q.symm.trans e) (by decide)
theorem own_Str.at1 (F : own_Str Z h a n c0 c1) (q : n = (1 : Int32)) : ∃ (v : Addr) (k : ClassId), Fld Z h a "java/lang/String" "coder" "B" (.int 0) ∧ Fld Z h a "java/lang/String" "value" "[B" (.ref v) ∧ Arv Z h v k .byte (1 : Int32) [(.int (c0.toInt8.toInt32))] (.int (0 : Int32)) := by
  obtain ⟨E, v, k, f1, f2, f3⟩ := F
  rcases f3 with ⟨e, A⟩ | ⟨e, A⟩ | ⟨e, A⟩
  · exact absurd (q.symm.trans e) (by decide)
  · exact ⟨v, k, f1, f2, A⟩
  · exact absurd (q.symm.trans e) (by decide)
theorem own_Str.at2 (F : own_Str Z h a n c0 c1) (q0 : ¬ (n = (0 : Int32))) (q1 : ¬ (n = (1 : Int32))) : ∃ (v : Addr) (k : ClassId), Fld Z h a "java/lang/String" "coder" "B" (.int 0) ∧ Fld Z h a "java/lang/String" "value" "[B" (.ref v) ∧ Arv Z h v k .byte (2 : Int32) [(.int (c0.toInt8.toInt32)), (.int (c1.toInt8.toInt32))] (.int (0 : Int32)) := by
  obtain ⟨E, v, k, f1, f2, f3⟩ := F
  rcases f3 with ⟨e, A⟩ | ⟨e, A⟩ | ⟨e, A⟩
  · exact absurd e q0
  · exact absurd e q1
  · exact ⟨v, k, f1, f2, A⟩
end OwnStr
theorem own_is2 {n : Int32} (h0 : ¬ n < (0 : Int32)) (h1 : n < (3 : Int32)) (q0 : ¬ (n = (0 : Int32))) (q1 : ¬ (n = (1 : Int32))) : n = (2 : Int32) := by
  have a0 : ¬ n.toInt < 0 := fun e => h0 (Int32.lt_iff_toInt_lt.mpr e)
  have a1 : n.toInt < 3 := Int32.lt_iff_toInt_lt.mp h1
  have b0 : ¬ n.toInt = 0 := fun e => q0 (Int32.toInt_inj.mp e)
  have b1 : ¬ n.toInt = 1 := fun e => q1 (Int32.toInt_inj.mp e)
  exact Int32.toInt_inj.mp (by have e : (2 : Int32).toInt = 2 := (by decide); omega)
def own_seq (n a0 a1 m b0 b1 : Int32) : Int32 := if n = m ∧ (n < (1 : Int32) ∨ a0 = b0) ∧ (n < (2 : Int32) ∨ a1 = b1) then (1 : Int32) else (0 : Int32)
section OwnSeq
variable {n a0 a1 m b0 b1 : Int32}
theorem own_lt12 (h : n < (1 : Int32)) : n < (2 : Int32) := by
  have a := Int32.lt_iff_toInt_lt.mp h
  exact Int32.lt_iff_toInt_lt.mpr (by have e : (2 : Int32).toInt = 2 := (by decide); have e1 : (1 : Int32).toInt = 1 := (by decide); omega)
theorem own_seq_n (h : ¬ (n = m)) : own_seq n a0 a1 m b0 b1 = (0 : Int32) := if_neg fun q => h q.1
theorem own_seq_0 (h : n = m) (h1 : n < (1 : Int32)) : own_seq n a0 a1 m b0 b1 = (1 : Int32) := if_pos ⟨h, Or.inl h1, Or.inl (own_lt12 h1)⟩
theorem own_seq_a (h : n = m) (h1 : ¬ (n < (1 : Int32))) (h2 : ¬ (a0 = b0)) : own_seq n a0 a1 m b0 b1 = (0 : Int32) := if_neg fun q => q.2.1.elim h1 h2
theorem own_seq_1 (h : n = m) (h1 : ¬ (n < (1 : Int32))) (h2 : a0 = b0) (h3 : n < (2 : Int32)) : own_seq n a0 a1 m b0 b1 = (1 : Int32) := if_pos ⟨h, Or.inr h2, Or.inl h3⟩
theorem own_seq_b (h : n = m) (h1 : ¬ (n < (1 : Int32))) (h2 : a0 = b0) (h3 : ¬ (n < (2 : Int32))) (h4 : ¬ (a1 = b1)) : own_seq n a0 a1 m b0 b1 = (0 : Int32) := if_neg fun q => q.2.2.elim h3 h4
theorem own_seq_2 (h : n = m) (h1 : ¬ (n < (1 : Int32))) (h2 : a0 = b0) (h3 : ¬ (n < (2 : Int32))) (h4 : a1 = b1) : own_seq n a0 a1 m b0 b1 = (1 : Int32) := if_pos ⟨h, Or.inr h2, Or.inr h4⟩
end OwnSeq
def own_kd (k : Int32) (w0 w1 : Addr) : Addr := if k = (0 : Int32) then w0 else w1
theorem own_kd_E {Z : State} {h : Heap} {C : String} {k : Int32} {w0 w1 : Addr} (E0 : Exa Z h w0 C) (E1 : Exa Z h w1 C) : Exa Z h (own_kd k w0 w1) C := by
  unfold own_kd; split <;> assumption
theorem own_kd_ne {k j : Int32} {w0 w1 : Addr} (hk : own_rg 2 k) (hj : own_rg 2 j) (h : ¬ (k = j)) (w : w0 ≠ w1) : own_kd k w0 w1 ≠ own_kd j w0 w1 := by
  have a := own_rgI hk (by decide : (2 : Int32).toInt = 2); have b := own_rgI hj (by decide : (2 : Int32).toInt = 2)
  have c : ¬ k.toInt = j.toInt := fun e => h (Int32.toInt_inj.mp e)
  unfold own_kd
  split
  · rename_i q
    have e : j ≠ 0 := fun q2 => h (q.trans q2.symm)
    rw [if_neg e]; exact w
  · rename_i q
    have q' : ¬ k.toInt = 0 := fun e => q (Int32.toInt_inj.mp e)
    have e : j = 0 := Int32.toInt_inj.mp (by have e0 : (0 : Int32).toInt = 0 := (by decide); omega)
    rw [if_pos e]; exact w.symm
abbrev lc0 (x0 x1 x2 x3 x4 x5 x6 : Int32) : Array Slot := #[.val (.int x0), .val (.int x1), .val (.int x2), .val (.int x3), .val (.int x4), .val (.int x5), .val (.int x6), .unset, .unset, .unset, .unset, .unset, .unset, .unset, .unset, .unset, .unset, .unset, .unset, .unset, .unset, .unset, .unset, .unset, .unset]
abbrev lc1 (x0 x1 x2 x3 x4 x5 x6 x7 : Int32) : Array Slot := #[.val (.int x0), .val (.int x1), .val (.int x2), .val (.int x3), .val (.int x4), .val (.int x5), .val (.int x6), .val (.int x7), .unset, .unset, .unset, .unset, .unset, .unset, .unset, .unset, .unset, .unset, .unset, .unset, .unset, .unset, .unset, .unset, .unset]
abbrev lc2 (x0 x1 x2 x3 x4 x5 x6 x7 x8 : Int32) : Array Slot := #[.val (.int x0), .val (.int x1), .val (.int x2), .val (.int x3), .val (.int x4), .val (.int x5), .val (.int x6), .val (.int x7), .val (.int x8), .unset, .unset, .unset, .unset, .unset, .unset, .unset, .unset, .unset, .unset, .unset, .unset, .unset, .unset, .unset, .unset]
abbrev lc3 (x0 x1 x2 x3 x4 x5 x6 x7 x8 x9 : Int32) : Array Slot := #[.val (.int x0), .val (.int x1), .val (.int x2), .val (.int x3), .val (.int x4), .val (.int x5), .val (.int x6), .val (.int x7), .val (.int x8), .val (.int x9), .unset, .unset, .unset, .unset, .unset, .unset, .unset, .unset, .unset, .unset, .unset, .unset, .unset, .unset, .unset]
abbrev lc4 (x0 x1 x2 x3 x4 x5 x6 x7 x8 x9 x10 : Int32) : Array Slot := #[.val (.int x0), .val (.int x1), .val (.int x2), .val (.int x3), .val (.int x4), .val (.int x5), .val (.int x6), .val (.int x7), .val (.int x8), .val (.int x9), .val (.int x10), .unset, .unset, .unset, .unset, .unset, .unset, .unset, .unset, .unset, .unset, .unset, .unset, .unset, .unset]
abbrev lc5 (x0 x1 x2 x3 x4 x5 x6 x7 x8 x9 x10 x11 : Int32) : Array Slot := #[.val (.int x0), .val (.int x1), .val (.int x2), .val (.int x3), .val (.int x4), .val (.int x5), .val (.int x6), .val (.int x7), .val (.int x8), .val (.int x9), .val (.int x10), .val (.int x11), .unset, .unset, .unset, .unset, .unset, .unset, .unset, .unset, .unset, .unset, .unset, .unset, .unset]
abbrev lc6 (x0 x1 x2 x3 x4 x5 x6 x7 x8 x9 x10 x11 x12 : Int32) : Array Slot := #[.val (.int x0), .val (.int x1), .val (.int x2), .val (.int x3), .val (.int x4), .val (.int x5), .val (.int x6), .val (.int x7), .val (.int x8), .val (.int x9), .val (.int x10), .val (.int x11), .val (.int x12), .unset, .unset, .unset, .unset, .unset, .unset, .unset, .unset, .unset, .unset, .unset, .unset]
abbrev lc7 (x0 x1 x2 x3 x4 x5 x6 x7 x8 x9 x10 x11 x12 x13 : Int32) : Array Slot := #[.val (.int x0), .val (.int x1), .val (.int x2), .val (.int x3), .val (.int x4), .val (.int x5), .val (.int x6), .val (.int x7), .val (.int x8), .val (.int x9), .val (.int x10), .val (.int x11), .val (.int x12), .val (.int x13), .unset, .unset, .unset, .unset, .unset, .unset, .unset, .unset, .unset, .unset, .unset]
abbrev lc8 (x0 x1 x2 x3 x4 x5 x6 x7 x8 x9 x10 x11 x12 x13 x14 : Int32) : Array Slot := #[.val (.int x0), .val (.int x1), .val (.int x2), .val (.int x3), .val (.int x4), .val (.int x5), .val (.int x6), .val (.int x7), .val (.int x8), .val (.int x9), .val (.int x10), .val (.int x11), .val (.int x12), .val (.int x13), .val (.int x14), .unset, .unset, .unset, .unset, .unset, .unset, .unset, .unset, .unset, .unset]
abbrev lc9 (x0 x1 x2 x3 x4 x5 x6 x7 x8 x9 x10 x11 x12 x13 x14 x15 : Int32) : Array Slot := #[.val (.int x0), .val (.int x1), .val (.int x2), .val (.int x3), .val (.int x4), .val (.int x5), .val (.int x6), .val (.int x7), .val (.int x8), .val (.int x9), .val (.int x10), .val (.int x11), .val (.int x12), .val (.int x13), .val (.int x14), .val (.int x15), .unset, .unset, .unset, .unset, .unset, .unset, .unset, .unset, .unset]
abbrev lc10 (x0 x1 x2 x3 x4 x5 x6 x7 x8 x9 x10 x11 x12 x13 x14 x15 x16 : Int32) : Array Slot := #[.val (.int x0), .val (.int x1), .val (.int x2), .val (.int x3), .val (.int x4), .val (.int x5), .val (.int x6), .val (.int x7), .val (.int x8), .val (.int x9), .val (.int x10), .val (.int x11), .val (.int x12), .val (.int x13), .val (.int x14), .val (.int x15), .val (.int x16), .unset, .unset, .unset, .unset, .unset, .unset, .unset, .unset]
abbrev lc11 (x0 x1 x2 x3 x4 x5 x6 x7 x8 x9 x10 x11 x12 x13 x14 x15 x16 x17 : Int32) : Array Slot := #[.val (.int x0), .val (.int x1), .val (.int x2), .val (.int x3), .val (.int x4), .val (.int x5), .val (.int x6), .val (.int x7), .val (.int x8), .val (.int x9), .val (.int x10), .val (.int x11), .val (.int x12), .val (.int x13), .val (.int x14), .val (.int x15), .val (.int x16), .val (.int x17), .unset, .unset, .unset, .unset, .unset, .unset, .unset]
abbrev lc12 (x0 x1 x2 x3 x4 x5 x6 x7 x8 x9 x10 x11 x12 x13 x14 x15 x16 x17 x18 : Int32) : Array Slot := #[.val (.int x0), .val (.int x1), .val (.int x2), .val (.int x3), .val (.int x4), .val (.int x5), .val (.int x6), .val (.int x7), .val (.int x8), .val (.int x9), .val (.int x10), .val (.int x11), .val (.int x12), .val (.int x13), .val (.int x14), .val (.int x15), .val (.int x16), .val (.int x17), .val (.int x18), .unset, .unset, .unset, .unset, .unset, .unset]
abbrev lc13 (x0 x1 x2 x3 x4 x5 x6 x7 x8 x9 x10 x11 x12 x13 x14 x15 x16 x17 x18 x19 : Int32) : Array Slot := #[.val (.int x0), .val (.int x1), .val (.int x2), .val (.int x3), .val (.int x4), .val (.int x5), .val (.int x6), .val (.int x7), .val (.int x8), .val (.int x9), .val (.int x10), .val (.int x11), .val (.int x12), .val (.int x13), .val (.int x14), .val (.int x15), .val (.int x16), .val (.int x17), .val (.int x18), .val (.int x19), .unset, .unset, .unset, .unset, .unset]
abbrev c_1 : ByteArray := method_2_code
theorem d1_0 : decode c_1 0 = .ok (.iload_n 0, 1) := by decide +kernel
theorem d1_1 : decode c_1 1 = .ok (.ifCond .ne 14, 3) := by decide +kernel
abbrev lc14 (x0 x1 x2 : Int32) : Array Slot := #[.val (.int x0), .val (.int x1), .val (.int x2)]
theorem d1_4 : decode c_1 4 = .ok (.new 7, 3) := by decide +kernel
theorem d1_7 : decode c_1 7 = .ok (.dup, 1) := by decide +kernel
theorem d1_8 : decode c_1 8 = .ok (.iconst 0, 1) := by decide +kernel
theorem d1_9 : decode c_1 9 = .ok (.newarray .char, 2) := by decide +kernel
theorem d1_11 : decode c_1 11 = .ok (.invokespecial 9, 3) := by decide +kernel
abbrev c_2 : ByteArray := jdk_42_method_3_code
theorem d2_0 : decode c_2 0 = .ok (.aload_n 0, 1) := by decide +kernel
theorem d2_1 : decode c_2 1 = .ok (.aload_n 1, 1) := by decide +kernel
theorem d2_2 : decode c_2 2 = .ok (.iconst 0, 1) := by decide +kernel
theorem d2_3 : decode c_2 3 = .ok (.aload_n 1, 1) := by decide +kernel
theorem d2_4 : decode c_2 4 = .ok (.arraylength, 1) := by decide +kernel
abbrev lc15 (x0 x1 : Addr) : Array Slot := #[.val (.ref x0), .val (.ref x1)]
theorem d2_5 : decode c_2 5 = .ok (.aconst_null, 1) := by decide +kernel
theorem d2_6 : decode c_2 6 = .ok (.invokespecial 27, 3) := by decide +kernel
abbrev c_3 : ByteArray := jdk_42_method_149_code
theorem d3_0 : decode c_3 0 = .ok (.aload_n 0, 1) := by decide +kernel
theorem d3_1 : decode c_3 1 = .ok (.invokespecial 1, 3) := by decide +kernel
abbrev lc16 (x0 x1 : Addr) (x2 x3 : Int32) : Array Slot := #[.val (.ref x0), .val (.ref x1), .val (.int x2), .val (.int x3), .val .null, .unset]
theorem d3_4 : decode c_3 4 = .ok (.iload_n 3, 1) := by decide +kernel
theorem d3_5 : decode c_3 5 = .ok (.ifCond .ne 22, 3) := by decide +kernel
theorem d3_8 : decode c_3 8 = .ok (.aload_n 0, 1) := by decide +kernel
theorem d3_9 : decode c_3 9 = .ok (.ldc 7, 2) := by decide +kernel
theorem d3_11 : decode c_3 11 = .ok (.getfield 9, 3) := by decide +kernel
theorem d3_14 : decode c_3 14 = .ok (.putfield 9, 3) := by decide +kernel
theorem d3_17 : decode c_3 17 = .ok (.aload_n 0, 1) := by decide +kernel
theorem d3_18 : decode c_3 18 = .ok (.ldc 7, 2) := by decide +kernel
theorem d3_20 : decode c_3 20 = .ok (.getfield 15, 3) := by decide +kernel
theorem d3_23 : decode c_3 23 = .ok (.putfield 15, 3) := by decide +kernel
theorem d3_26 : decode c_3 26 = .ok (.return_, 1) := by decide +kernel
theorem ef_0 (m : MethodId) (x0 x1 : Addr) (x2 x3 : Int32) : entryFrame m #[(.ref x0), (.ref x1), (.int x2), (.int x3), .null] 6 = mkF m 0 #[.val (.ref x0), .val (.ref x1), .val (.int x2), .val (.int x3), .val .null, .unset] [] := by first | (simp [entryFrame, mkF, argsToLocals, Value.category, maxLocals]; done) | rfl
theorem pn_0 : plainName "java/lang/String" = true := by first | (simp [plainName, overriddenIn]; done) | decide +kernel
theorem pd_0 : parseMethodDescriptor "([CIILjava/lang/Void;)V" = some ⟨[(.array .char), .int, .int, (.object "java/lang/Void")], none⟩ := by decide +kernel
theorem d2_9 : decode c_2 9 = .ok (.return_, 1) := by decide +kernel
theorem ef_1 (m : MethodId) (x0 x1 : Addr) : entryFrame m #[(.ref x0), (.ref x1)] 2 = mkF m 0 #[.val (.ref x0), .val (.ref x1)] [] := by first | (simp [entryFrame, mkF, argsToLocals, Value.category, maxLocals]; done) | rfl
theorem pd_1 : parseMethodDescriptor "([C)V" = some ⟨[(.array .char)], none⟩ := by decide +kernel
theorem d1_14 : decode c_1 14 = .ok (.areturn, 1) := by decide +kernel
theorem d1_15 : decode c_1 15 = .ok (.iload_n 0, 1) := by decide +kernel
theorem d1_16 : decode c_1 16 = .ok (.iconst 1, 1) := by decide +kernel
theorem d1_17 : decode c_1 17 = .ok (.if_icmp .ne 18, 3) := by decide +kernel
theorem d1_20 : decode c_1 20 = .ok (.new 7, 3) := by decide +kernel
theorem d1_23 : decode c_1 23 = .ok (.dup, 1) := by decide +kernel
theorem d1_24 : decode c_1 24 = .ok (.iconst 1, 1) := by decide +kernel
theorem d1_25 : decode c_1 25 = .ok (.newarray .char, 2) := by decide +kernel
theorem d1_27 : decode c_1 27 = .ok (.dup, 1) := by decide +kernel
theorem d1_28 : decode c_1 28 = .ok (.iconst 0, 1) := by decide +kernel
theorem d1_29 : decode c_1 29 = .ok (.iload_n 1, 1) := by decide +kernel
theorem d1_30 : decode c_1 30 = .ok (.castore, 1) := by decide +kernel
theorem d1_31 : decode c_1 31 = .ok (.invokespecial 9, 3) := by decide +kernel
theorem d3_27 : decode c_3 27 = .ok (.getstatic 38, 3) := by decide +kernel
theorem d3_30 : decode c_3 30 = .ok (.ifCond .eq 28, 3) := by decide +kernel
theorem d3_33 : decode c_3 33 = .ok (.aload_n 1, 1) := by decide +kernel
theorem d3_34 : decode c_3 34 = .ok (.iload_n 2, 1) := by decide +kernel
theorem d3_35 : decode c_3 35 = .ok (.iload_n 3, 1) := by decide +kernel
theorem d3_36 : decode c_3 36 = .ok (.invokestatic 177, 3) := by decide +kernel
abbrev c_9 : ByteArray := jdk_52_method_16_code
theorem d9_0 : decode c_9 0 = .ok (.iload_n 2, 1) := by decide +kernel
theorem d9_1 : decode c_9 1 = .ok (.newarray .byte, 2) := by decide +kernel
abbrev lc17 (x0 : Addr) (x1 x2 : Int32) : Array Slot := #[.val (.ref x0), .val (.int x1), .val (.int x2), .unset, .unset, .unset]
theorem d9_3 : decode c_9 3 = .ok (.astore_n 3, 1) := by decide +kernel
abbrev lc18 (x0 : Addr) (x1 x2 : Int32) (x3 : Addr) : Array Slot := #[.val (.ref x0), .val (.int x1), .val (.int x2), .val (.ref x3), .unset, .unset]
theorem d9_4 : decode c_9 4 = .ok (.aload_n 0, 1) := by decide +kernel
theorem d9_5 : decode c_9 5 = .ok (.iload_n 1, 1) := by decide +kernel
theorem d9_6 : decode c_9 6 = .ok (.aload_n 3, 1) := by decide +kernel
theorem d9_7 : decode c_9 7 = .ok (.iconst 0, 1) := by decide +kernel
theorem d9_8 : decode c_9 8 = .ok (.iload_n 2, 1) := by decide +kernel
theorem d9_9 : decode c_9 9 = .ok (.invokestatic 115, 3) := by decide +kernel
abbrev c_10 : ByteArray := jdk_52_method_21_code
theorem d10_0 : decode c_10 0 = .ok (.iconst 0, 1) := by decide +kernel
theorem d10_1 : decode c_10 1 = .ok (.istore 5, 2) := by decide +kernel
abbrev lc19 (x0 : Addr) (x1 : Int32) (x2 : Addr) (x3 x4 x5 : Int32) : Array Slot := #[.val (.ref x0), .val (.int x1), .val (.ref x2), .val (.int x3), .val (.int x4), .val (.int x5), .unset]
theorem d10_3 : decode c_10 3 = .ok (.iload 5, 2) := by decide +kernel
theorem d10_5 : decode c_10 5 = .ok (.iload 4, 2) := by decide +kernel
theorem d10_7 : decode c_10 7 = .ok (.if_icmp .ge 37, 3) := by decide +kernel
theorem d10_10 : decode c_10 10 = .ok (.aload_n 0, 1) := by decide +kernel
theorem d10_11 : decode c_10 11 = .ok (.iload_n 1, 1) := by decide +kernel
theorem d10_12 : decode c_10 12 = .ok (.caload, 1) := by decide +kernel
theorem d10_13 : decode c_10 13 = .ok (.istore 6, 2) := by decide +kernel
abbrev lc20 (x0 : Addr) (x1 : Int32) (x2 : Addr) (x3 x4 x5 x6 : Int32) : Array Slot := #[.val (.ref x0), .val (.int x1), .val (.ref x2), .val (.int x3), .val (.int x4), .val (.int x5), .val (.int x6)]
theorem d10_15 : decode c_10 15 = .ok (.iload 6, 2) := by decide +kernel
theorem d10_17 : decode c_10 17 = .ok (.sipush 255, 3) := by decide +kernel
theorem d10_20 : decode c_10 20 = .ok (.if_icmp .le 6, 3) := by decide +kernel
theorem d10_26 : decode c_10 26 = .ok (.aload_n 2, 1) := by decide +kernel
theorem d10_27 : decode c_10 27 = .ok (.iload_n 3, 1) := by decide +kernel
theorem d10_28 : decode c_10 28 = .ok (.iload 6, 2) := by decide +kernel
theorem d10_30 : decode c_10 30 = .ok (.i2b, 1) := by decide +kernel
theorem d10_31 : decode c_10 31 = .ok (.bastore, 1) := by decide +kernel
theorem d10_32 : decode c_10 32 = .ok (.iinc 1 1, 3) := by decide +kernel
theorem d10_35 : decode c_10 35 = .ok (.iinc 3 1, 3) := by decide +kernel
theorem d10_38 : decode c_10 38 = .ok (.iinc 5 1, 3) := by decide +kernel
theorem d10_41 : decode c_10 41 = .ok (.goto (-38), 3) := by decide +kernel
theorem d10_44 : decode c_10 44 = .ok (.iload 4, 2) := by decide +kernel
theorem d10_46 : decode c_10 46 = .ok (.ireturn, 1) := by decide +kernel
theorem ef_2 (m : MethodId) (x0 : Addr) (x1 : Int32) (x2 : Addr) (x3 x4 : Int32) : entryFrame m #[(.ref x0), (.int x1), (.ref x2), (.int x3), (.int x4)] 7 = mkF m 0 #[.val (.ref x0), .val (.int x1), .val (.ref x2), .val (.int x3), .val (.int x4), .unset, .unset] [] := by first | (simp [entryFrame, mkF, argsToLocals, Value.category, maxLocals]; done) | rfl
theorem pn_1 : plainName "java/lang/StringUTF16" = true := by first | (simp [plainName, overriddenIn]; done) | decide +kernel
abbrev lc21 (x0 : Addr) (x1 : Int32) (x2 : Addr) (x3 x4 : Int32) : Array Slot := #[.val (.ref x0), .val (.int x1), .val (.ref x2), .val (.int x3), .val (.int x4), .unset, .unset]
theorem pd_2 : parseMethodDescriptor "([CI[BII)I" = some ⟨[(.array .char), .int, (.array .byte), .int, .int], some .int⟩ := by decide +kernel
theorem d9_12 : decode c_9 12 = .ok (.istore 4, 2) := by decide +kernel
abbrev lc22 (x0 : Addr) (x1 x2 : Int32) (x3 : Addr) (x4 : Int32) : Array Slot := #[.val (.ref x0), .val (.int x1), .val (.int x2), .val (.ref x3), .val (.int x4), .unset]
theorem d9_14 : decode c_9 14 = .ok (.iload 4, 2) := by decide +kernel
theorem d9_16 : decode c_9 16 = .ok (.iload_n 2, 1) := by decide +kernel
theorem d9_17 : decode c_9 17 = .ok (.if_icmp .eq 40, 3) := by decide +kernel
theorem d9_57 : decode c_9 57 = .ok (.aload_n 3, 1) := by decide +kernel
theorem d9_58 : decode c_9 58 = .ok (.areturn, 1) := by decide +kernel
theorem ef_3 (m : MethodId) (x0 : Addr) (x1 x2 : Int32) : entryFrame m #[(.ref x0), (.int x1), (.int x2)] 6 = mkF m 0 #[.val (.ref x0), .val (.int x1), .val (.int x2), .unset, .unset, .unset] [] := by first | (simp [entryFrame, mkF, argsToLocals, Value.category, maxLocals]; done) | rfl
theorem pd_3 : parseMethodDescriptor "([CII)[B" = some ⟨[(.array .char), .int, .int], some (.array .byte)⟩ := by decide +kernel
theorem d3_39 : decode c_3 39 = .ok (.astore 5, 2) := by decide +kernel
abbrev lc23 (x0 x1 : Addr) (x2 x3 : Int32) (x4 : Addr) : Array Slot := #[.val (.ref x0), .val (.ref x1), .val (.int x2), .val (.int x3), .val .null, .val (.ref x4)]
theorem d3_41 : decode c_3 41 = .ok (.aload_n 0, 1) := by decide +kernel
theorem d3_42 : decode c_3 42 = .ok (.aload 5, 2) := by decide +kernel
theorem d3_44 : decode c_3 44 = .ok (.iload_n 3, 1) := by decide +kernel
theorem d3_45 : decode c_3 45 = .ok (.invokestatic 47, 3) := by decide +kernel
abbrev c_11 : ByteArray := jdk_52_method_15_code
theorem d11_0 : decode c_11 0 = .ok (.iload_n 1, 1) := by decide +kernel
theorem d11_1 : decode c_11 1 = .ok (.aload_n 0, 1) := by decide +kernel
theorem d11_2 : decode c_11 2 = .ok (.arraylength, 1) := by decide +kernel
abbrev lc24 (x0 : Addr) (x1 : Int32) : Array Slot := #[.val (.ref x0), .val (.int x1)]
theorem d11_3 : decode c_11 3 = .ok (.isub, 1) := by decide +kernel
theorem d11_4 : decode c_11 4 = .ok (.bipush 31, 2) := by decide +kernel
theorem d11_6 : decode c_11 6 = .ok (.iushr, 1) := by decide +kernel
theorem d11_7 : decode c_11 7 = .ok (.i2b, 1) := by decide +kernel
theorem d11_8 : decode c_11 8 = .ok (.ireturn, 1) := by decide +kernel
theorem ef_4 (m : MethodId) (x0 : Addr) (x1 : Int32) : entryFrame m #[(.ref x0), (.int x1)] 2 = mkF m 0 #[.val (.ref x0), .val (.int x1)] [] := by first | (simp [entryFrame, mkF, argsToLocals, Value.category, maxLocals]; done) | rfl
theorem pd_4 : parseMethodDescriptor "([BI)B" = some ⟨[(.array .byte), .int], some .byte⟩ := by decide +kernel
theorem d3_48 : decode c_3 48 = .ok (.putfield 15, 3) := by decide +kernel
theorem d3_51 : decode c_3 51 = .ok (.aload_n 0, 1) := by decide +kernel
theorem d3_52 : decode c_3 52 = .ok (.aload 5, 2) := by decide +kernel
theorem d3_54 : decode c_3 54 = .ok (.putfield 9, 3) := by decide +kernel
theorem d3_57 : decode c_3 57 = .ok (.return_, 1) := by decide +kernel
theorem d1_34 : decode c_1 34 = .ok (.areturn, 1) := by decide +kernel
theorem d1_35 : decode c_1 35 = .ok (.new 7, 3) := by decide +kernel
theorem d1_38 : decode c_1 38 = .ok (.dup, 1) := by decide +kernel
theorem d1_39 : decode c_1 39 = .ok (.iconst 2, 1) := by decide +kernel
theorem d1_40 : decode c_1 40 = .ok (.newarray .char, 2) := by decide +kernel
theorem d1_42 : decode c_1 42 = .ok (.dup, 1) := by decide +kernel
theorem d1_43 : decode c_1 43 = .ok (.iconst 0, 1) := by decide +kernel
theorem d1_44 : decode c_1 44 = .ok (.iload_n 1, 1) := by decide +kernel
theorem d1_45 : decode c_1 45 = .ok (.castore, 1) := by decide +kernel
theorem d1_46 : decode c_1 46 = .ok (.dup, 1) := by decide +kernel
theorem d1_47 : decode c_1 47 = .ok (.iconst 1, 1) := by decide +kernel
theorem d1_48 : decode c_1 48 = .ok (.iload_n 2, 1) := by decide +kernel
theorem d1_49 : decode c_1 49 = .ok (.castore, 1) := by decide +kernel
theorem d1_50 : decode c_1 50 = .ok (.invokespecial 9, 3) := by decide +kernel
theorem d1_53 : decode c_1 53 = .ok (.areturn, 1) := by decide +kernel
theorem ef_5 (m : MethodId) (x0 x1 x2 : Int32) : entryFrame m #[(.int x0), (.int x1), (.int x2)] 3 = mkF m 0 #[.val (.int x0), .val (.int x1), .val (.int x2)] [] := by first | (simp [entryFrame, mkF, argsToLocals, Value.category, maxLocals]; done) | rfl
theorem pn_2 : plainName "com/example/aspen/aspen/model/PolicyIdentifierEqualsPinLaw" = true := by first | (simp [plainName, overriddenIn]; done) | decide +kernel
theorem pd_5 : parseMethodDescriptor "(ICC)Ljava/lang/String;" = some ⟨[.int, .char, .char], some (.object "java/lang/String")⟩ := by decide +kernel
abbrev lc25 (x0 x1 x2 x3 x4 x5 x6 x7 x8 x9 x10 x11 x12 x13 x14 x15 x16 x17 x18 x19 : Int32) (x20 : Addr) : Array Slot := #[.val (.int x0), .val (.int x1), .val (.int x2), .val (.int x3), .val (.int x4), .val (.int x5), .val (.int x6), .val (.int x7), .val (.int x8), .val (.int x9), .val (.int x10), .val (.int x11), .val (.int x12), .val (.int x13), .val (.int x14), .val (.int x15), .val (.int x16), .val (.int x17), .val (.int x18), .val (.int x19), .val (.ref x20), .unset, .unset, .unset, .unset]
abbrev c_5 : ByteArray := method_4_code
theorem d5_0 : decode c_5 0 = .ok (.iload_n 0, 1) := by decide +kernel
theorem d5_1 : decode c_5 1 = .ok (.ifCond .eq 9, 3) := by decide +kernel
abbrev lc26 (x0 : Int32) : Array Slot := #[.val (.int x0)]
theorem d5_10 : decode c_5 10 = .ok (.getstatic 18, 3) := by decide +kernel
theorem d5_13 : decode c_5 13 = .ok (.areturn, 1) := by decide +kernel
theorem d5_4 : decode c_5 4 = .ok (.getstatic 12, 3) := by decide +kernel
theorem d5_7 : decode c_5 7 = .ok (.goto 6, 3) := by decide +kernel
theorem ef_6 (m : MethodId) (x0 : Int32) : entryFrame m #[(.int x0)] 1 = mkF m 0 #[.val (.int x0)] [] := by first | (simp [entryFrame, mkF, argsToLocals, Value.category, maxLocals]; done) | rfl
theorem pd_6 : parseMethodDescriptor "(Z)Lcom/example/aspen/aspen/model/PolicyIdentifier$Kind;" = some ⟨[.boolean], some (.object "com/example/aspen/aspen/model/PolicyIdentifier$Kind")⟩ := by decide +kernel
abbrev c_6 : ByteArray := prog_121_method_1_code
theorem d6_0 : decode c_6 0 = .ok (.aload_n 0, 1) := by decide +kernel
theorem d6_1 : decode c_6 1 = .ok (.invokespecial 1, 3) := by decide +kernel
abbrev lc27 (x0 x1 x2 x3 : Addr) : Array Slot := #[.val (.ref x0), .val (.ref x1), .val (.ref x2), .val (.ref x3)]
theorem d6_4 : decode c_6 4 = .ok (.aload_n 0, 1) := by decide +kernel
theorem d6_5 : decode c_6 5 = .ok (.aload_n 1, 1) := by decide +kernel
theorem d6_6 : decode c_6 6 = .ok (.ldc 7, 2) := by decide +kernel
theorem d6_8 : decode c_6 8 = .ok (.invokestatic 9, 3) := by decide +kernel
abbrev c_7 : ByteArray := jdk_31_method_11_code
theorem d7_0 : decode c_7 0 = .ok (.aload_n 0, 1) := by decide +kernel
theorem d7_1 : decode c_7 1 = .ok (.ifnonnull 12, 3) := by decide +kernel
theorem d7_13 : decode c_7 13 = .ok (.aload_n 0, 1) := by decide +kernel
theorem d7_14 : decode c_7 14 = .ok (.areturn, 1) := by decide +kernel
theorem pn_3 : plainName "java/util/Objects" = true := by first | (simp [plainName, overriddenIn]; done) | decide +kernel
theorem pd_7 : parseMethodDescriptor "(Ljava/lang/Object;Ljava/lang/String;)Ljava/lang/Object;" = some ⟨[(.object "java/lang/Object"), (.object "java/lang/String")], some (.object "java/lang/Object")⟩ := by decide +kernel
theorem d6_11 : decode c_6 11 = .ok (.checkcast 15, 3) := by decide +kernel
theorem d6_14 : decode c_6 14 = .ok (.putfield 17, 3) := by decide +kernel
theorem d6_17 : decode c_6 17 = .ok (.aload_n 0, 1) := by decide +kernel
theorem d6_18 : decode c_6 18 = .ok (.aload_n 2, 1) := by decide +kernel
theorem d6_19 : decode c_6 19 = .ok (.ldc 22, 2) := by decide +kernel
theorem d6_21 : decode c_6 21 = .ok (.invokestatic 9, 3) := by decide +kernel
theorem d6_24 : decode c_6 24 = .ok (.checkcast 24, 3) := by decide +kernel
theorem d6_27 : decode c_6 27 = .ok (.putfield 26, 3) := by decide +kernel
theorem d6_30 : decode c_6 30 = .ok (.aload_n 0, 1) := by decide +kernel
theorem d6_31 : decode c_6 31 = .ok (.aload_n 3, 1) := by decide +kernel
theorem d6_32 : decode c_6 32 = .ok (.ldc 29, 2) := by decide +kernel
theorem d6_34 : decode c_6 34 = .ok (.invokestatic 9, 3) := by decide +kernel
theorem d6_37 : decode c_6 37 = .ok (.checkcast 24, 3) := by decide +kernel
theorem d6_40 : decode c_6 40 = .ok (.putfield 31, 3) := by decide +kernel
theorem d6_43 : decode c_6 43 = .ok (.return_, 1) := by decide +kernel
theorem ef_7 (m : MethodId) (x0 x1 x2 x3 : Addr) : entryFrame m #[(.ref x0), (.ref x1), (.ref x2), (.ref x3)] 4 = mkF m 0 #[.val (.ref x0), .val (.ref x1), .val (.ref x2), .val (.ref x3)] [] := by first | (simp [entryFrame, mkF, argsToLocals, Value.category, maxLocals]; done) | rfl
theorem pn_4 : plainName "com/example/aspen/aspen/model/PolicyIdentifier" = true := by first | (simp [plainName, overriddenIn]; done) | decide +kernel
theorem pd_8 : parseMethodDescriptor "(Lcom/example/aspen/aspen/model/PolicyIdentifier$Kind;Ljava/lang/String;Ljava/lang/String;)V" = some ⟨[(.object "com/example/aspen/aspen/model/PolicyIdentifier$Kind"), (.object "java/lang/String"), (.object "java/lang/String")], none⟩ := by decide +kernel
abbrev lc28 (x0 x1 x2 x3 x4 x5 x6 x7 x8 x9 x10 x11 x12 x13 x14 x15 x16 x17 x18 x19 : Int32) (x20 x21 : Addr) : Array Slot := #[.val (.int x0), .val (.int x1), .val (.int x2), .val (.int x3), .val (.int x4), .val (.int x5), .val (.int x6), .val (.int x7), .val (.int x8), .val (.int x9), .val (.int x10), .val (.int x11), .val (.int x12), .val (.int x13), .val (.int x14), .val (.int x15), .val (.int x16), .val (.int x17), .val (.int x18), .val (.int x19), .val (.ref x20), .val (.ref x21), .unset, .unset, .unset]
abbrev lc29 (x0 x1 x2 x3 x4 x5 x6 x7 x8 x9 x10 x11 x12 x13 x14 x15 x16 x17 x18 x19 : Int32) (x20 x21 : Addr) (x22 : Int32) : Array Slot := #[.val (.int x0), .val (.int x1), .val (.int x2), .val (.int x3), .val (.int x4), .val (.int x5), .val (.int x6), .val (.int x7), .val (.int x8), .val (.int x9), .val (.int x10), .val (.int x11), .val (.int x12), .val (.int x13), .val (.int x14), .val (.int x15), .val (.int x16), .val (.int x17), .val (.int x18), .val (.int x19), .val (.ref x20), .val (.ref x21), .val (.int x22), .unset, .unset]
abbrev c_8 : ByteArray := prog_121_method_5_code
theorem d8_0 : decode c_8 0 = .ok (.aload_n 1, 1) := by decide +kernel
theorem d8_1 : decode c_8 1 = .ok (.instanceof 18, 3) := by decide +kernel
abbrev lc30 (x0 : Addr) : Array Slot := #[.val (.ref x0), .val .null, .unset]
theorem d8_4 : decode c_8 4 = .ok (.ifCond .eq 51, 3) := by decide +kernel
theorem d8_55 : decode c_8 55 = .ok (.iconst 0, 1) := by decide +kernel
theorem d8_56 : decode c_8 56 = .ok (.ireturn, 1) := by decide +kernel
theorem ef_8 (m : MethodId) (x0 : Addr) : entryFrame m #[(.ref x0), .null] 3 = mkF m 0 #[.val (.ref x0), .val .null, .unset] [] := by first | (simp [entryFrame, mkF, argsToLocals, Value.category, maxLocals]; done) | rfl
theorem pd_9 : parseMethodDescriptor "(Ljava/lang/Object;)Z" = some ⟨[(.object "java/lang/Object")], some .boolean⟩ := by decide +kernel
theorem ef_9 (m : MethodId) (x0 x1 x2 x3 x4 x5 : Int32) : entryFrame m #[(.int x0), (.int x1), (.int x2), (.int x3), (.int x4), (.int x5)] maxLocals = mkF m 0 #[.val (.int x0), .val (.int x1), .val (.int x2), .val (.int x3), .val (.int x4), .val (.int x5), .unset, .unset, .unset, .unset, .unset, .unset, .unset, .unset, .unset, .unset, .unset, .unset, .unset, .unset, .unset, .unset, .unset, .unset, .unset] [] := by first | (simp [entryFrame, mkF, argsToLocals, Value.category, maxLocals]; done) | rfl
abbrev lc31 (x0 x1 x2 x3 x4 x5 : Int32) : Array Slot := #[.val (.int x0), .val (.int x1), .val (.int x2), .val (.int x3), .val (.int x4), .val (.int x5), .unset, .unset, .unset, .unset, .unset, .unset, .unset, .unset, .unset, .unset, .unset, .unset, .unset, .unset, .unset, .unset, .unset, .unset, .unset]
abbrev lc32 (x0 x1 x2 x3 x4 x5 x6 x7 x8 x9 x10 x11 x12 x13 x14 x15 x16 x17 x18 x19 : Int32) (x20 x21 : Addr) (x22 : Int32) (x23 : Addr) : Array Slot := #[.val (.int x0), .val (.int x1), .val (.int x2), .val (.int x3), .val (.int x4), .val (.int x5), .val (.int x6), .val (.int x7), .val (.int x8), .val (.int x9), .val (.int x10), .val (.int x11), .val (.int x12), .val (.int x13), .val (.int x14), .val (.int x15), .val (.int x16), .val (.int x17), .val (.int x18), .val (.int x19), .val (.ref x20), .val (.ref x21), .val (.int x22), .val (.ref x23), .unset]
abbrev lc33 (x0 x1 : Addr) : Array Slot := #[.val (.ref x0), .val (.ref x1), .unset]
theorem ef_10 (m : MethodId) (x0 x1 : Addr) : entryFrame m #[(.ref x0), (.ref x1)] 3 = mkF m 0 #[.val (.ref x0), .val (.ref x1), .unset] [] := by first | (simp [entryFrame, mkF, argsToLocals, Value.category, maxLocals]; done) | rfl
abbrev c_12 : ByteArray := method_3_code
theorem d12_0 : decode c_12 0 = .ok (.iload_n 0, 1) := by decide +kernel
theorem d12_1 : decode c_12 1 = .ok (.iload_n 3, 1) := by decide +kernel
theorem d12_2 : decode c_12 2 = .ok (.if_icmp .eq 5, 3) := by decide +kernel
abbrev lc34 (x0 x1 x2 x3 x4 x5 : Int32) : Array Slot := #[.val (.int x0), .val (.int x1), .val (.int x2), .val (.int x3), .val (.int x4), .val (.int x5)]
theorem d12_7 : decode c_12 7 = .ok (.iload_n 0, 1) := by decide +kernel
theorem d12_8 : decode c_12 8 = .ok (.iconst 1, 1) := by decide +kernel
theorem d12_9 : decode c_12 9 = .ok (.if_icmp .lt 11, 3) := by decide +kernel
theorem d12_20 : decode c_12 20 = .ok (.iload_n 0, 1) := by decide +kernel
theorem d12_21 : decode c_12 21 = .ok (.iconst 2, 1) := by decide +kernel
theorem d12_22 : decode c_12 22 = .ok (.if_icmp .lt 11, 3) := by decide +kernel
theorem d12_33 : decode c_12 33 = .ok (.iconst 1, 1) := by decide +kernel
theorem d12_34 : decode c_12 34 = .ok (.ireturn, 1) := by decide +kernel
theorem d12_12 : decode c_12 12 = .ok (.iload_n 1, 1) := by decide +kernel
theorem d12_13 : decode c_12 13 = .ok (.iload 4, 2) := by decide +kernel
theorem d12_15 : decode c_12 15 = .ok (.if_icmp .eq 5, 3) := by decide +kernel
theorem d12_25 : decode c_12 25 = .ok (.iload_n 2, 1) := by decide +kernel
theorem d12_26 : decode c_12 26 = .ok (.iload 5, 2) := by decide +kernel
theorem d12_28 : decode c_12 28 = .ok (.if_icmp .eq 5, 3) := by decide +kernel
theorem d12_31 : decode c_12 31 = .ok (.iconst 0, 1) := by decide +kernel
theorem d12_32 : decode c_12 32 = .ok (.ireturn, 1) := by decide +kernel
theorem d12_18 : decode c_12 18 = .ok (.iconst 0, 1) := by decide +kernel
theorem d12_19 : decode c_12 19 = .ok (.ireturn, 1) := by decide +kernel
theorem d12_5 : decode c_12 5 = .ok (.iconst 0, 1) := by decide +kernel
theorem d12_6 : decode c_12 6 = .ok (.ireturn, 1) := by decide +kernel
theorem ef_11 (m : MethodId) (x0 x1 x2 x3 x4 x5 : Int32) : entryFrame m #[(.int x0), (.int x1), (.int x2), (.int x3), (.int x4), (.int x5)] 6 = mkF m 0 #[.val (.int x0), .val (.int x1), .val (.int x2), .val (.int x3), .val (.int x4), .val (.int x5)] [] := by first | (simp [entryFrame, mkF, argsToLocals, Value.category, maxLocals]; done) | rfl
theorem pd_10 : parseMethodDescriptor "(ICCICC)Z" = some ⟨[.int, .char, .char, .int, .char, .char], some .boolean⟩ := by decide +kernel
abbrev lc35 (x0 x1 x2 x3 x4 x5 x6 x7 x8 x9 x10 x11 x12 x13 x14 x15 x16 x17 x18 x19 : Int32) (x20 x21 : Addr) (x22 : Int32) (x23 : Addr) (x24 : Int32) : Array Slot := #[.val (.int x0), .val (.int x1), .val (.int x2), .val (.int x3), .val (.int x4), .val (.int x5), .val (.int x6), .val (.int x7), .val (.int x8), .val (.int x9), .val (.int x10), .val (.int x11), .val (.int x12), .val (.int x13), .val (.int x14), .val (.int x15), .val (.int x16), .val (.int x17), .val (.int x18), .val (.int x19), .val (.ref x20), .val (.ref x21), .val (.int x22), .val (.ref x23), .val (.int x24)]
theorem d8_7 : decode c_8 7 = .ok (.aload_n 1, 1) := by decide +kernel
theorem d8_8 : decode c_8 8 = .ok (.checkcast 18, 3) := by decide +kernel
theorem d8_11 : decode c_8 11 = .ok (.astore_n 2, 1) := by decide +kernel
abbrev lc36 (x0 x1 x2 : Addr) : Array Slot := #[.val (.ref x0), .val (.ref x1), .val (.ref x2)]
theorem d8_12 : decode c_8 12 = .ok (.aload_n 0, 1) := by decide +kernel
theorem d8_13 : decode c_8 13 = .ok (.getfield 17, 3) := by decide +kernel
theorem d8_16 : decode c_8 16 = .ok (.aload_n 2, 1) := by decide +kernel
theorem d8_17 : decode c_8 17 = .ok (.getfield 17, 3) := by decide +kernel
theorem d8_20 : decode c_8 20 = .ok (.if_acmp .ne 35, 3) := by decide +kernel
theorem d8_23 : decode c_8 23 = .ok (.aload_n 0, 1) := by decide +kernel
theorem d8_24 : decode c_8 24 = .ok (.getfield 26, 3) := by decide +kernel
theorem d8_27 : decode c_8 27 = .ok (.aload_n 2, 1) := by decide +kernel
theorem d8_28 : decode c_8 28 = .ok (.getfield 26, 3) := by decide +kernel
theorem d8_31 : decode c_8 31 = .ok (.invokevirtual 33, 3) := by decide +kernel
abbrev c_13 : ByteArray := jdk_42_method_66_code
theorem d13_0 : decode c_13 0 = .ok (.aload_n 0, 1) := by decide +kernel
theorem d13_1 : decode c_13 1 = .ok (.aload_n 1, 1) := by decide +kernel
theorem d13_2 : decode c_13 2 = .ok (.if_acmp .ne 5, 3) := by decide +kernel
theorem d13_7 : decode c_13 7 = .ok (.aload_n 1, 1) := by decide +kernel
theorem d13_8 : decode c_13 8 = .ok (.instanceof 10, 3) := by decide +kernel
theorem d13_11 : decode c_13 11 = .ok (.ifCond .eq 43, 3) := by decide +kernel
theorem d13_14 : decode c_13 14 = .ok (.aload_n 1, 1) := by decide +kernel
theorem d13_15 : decode c_13 15 = .ok (.checkcast 10, 3) := by decide +kernel
theorem d13_18 : decode c_13 18 = .ok (.astore_n 2, 1) := by decide +kernel
theorem d13_19 : decode c_13 19 = .ok (.getstatic 38, 3) := by decide +kernel
theorem d13_22 : decode c_13 22 = .ok (.ifCond .eq 14, 3) := by decide +kernel
theorem d13_25 : decode c_13 25 = .ok (.aload_n 0, 1) := by decide +kernel
theorem d13_26 : decode c_13 26 = .ok (.getfield 15, 3) := by decide +kernel
theorem d13_29 : decode c_13 29 = .ok (.aload_n 2, 1) := by decide +kernel
theorem d13_30 : decode c_13 30 = .ok (.getfield 15, 3) := by decide +kernel
theorem d13_33 : decode c_13 33 = .ok (.if_icmp .ne 21, 3) := by decide +kernel
theorem d13_36 : decode c_13 36 = .ok (.aload_n 0, 1) := by decide +kernel
theorem d13_37 : decode c_13 37 = .ok (.getfield 9, 3) := by decide +kernel
theorem d13_40 : decode c_13 40 = .ok (.aload_n 2, 1) := by decide +kernel
theorem d13_41 : decode c_13 41 = .ok (.getfield 9, 3) := by decide +kernel
theorem d13_44 : decode c_13 44 = .ok (.invokestatic 541, 3) := by decide +kernel
abbrev c_14 : ByteArray := jdk_43_method_13_code
theorem d14_0 : decode c_14 0 = .ok (.aload_n 0, 1) := by decide +kernel
theorem d14_1 : decode c_14 1 = .ok (.arraylength, 1) := by decide +kernel
theorem d14_2 : decode c_14 2 = .ok (.aload_n 1, 1) := by decide +kernel
theorem d14_3 : decode c_14 3 = .ok (.arraylength, 1) := by decide +kernel
theorem d14_4 : decode c_14 4 = .ok (.if_icmp .ne 30, 3) := by decide +kernel
theorem d14_7 : decode c_14 7 = .ok (.iconst 0, 1) := by decide +kernel
theorem d14_8 : decode c_14 8 = .ok (.istore_n 2, 1) := by decide +kernel
abbrev lc37 (x0 x1 : Addr) (x2 : Int32) : Array Slot := #[.val (.ref x0), .val (.ref x1), .val (.int x2)]
theorem d14_9 : decode c_14 9 = .ok (.iload_n 2, 1) := by decide +kernel
theorem d14_10 : decode c_14 10 = .ok (.aload_n 0, 1) := by decide +kernel
theorem d14_11 : decode c_14 11 = .ok (.arraylength, 1) := by decide +kernel
theorem d14_12 : decode c_14 12 = .ok (.if_icmp .ge 20, 3) := by decide +kernel
theorem d14_32 : decode c_14 32 = .ok (.iconst 1, 1) := by decide +kernel
theorem d14_33 : decode c_14 33 = .ok (.ireturn, 1) := by decide +kernel
theorem pn_5 : plainName "java/lang/StringLatin1" = true := by first | (simp [plainName, overriddenIn]; done) | decide +kernel
theorem pd_11 : parseMethodDescriptor "([B[B)Z" = some ⟨[(.array .byte), (.array .byte)], some .boolean⟩ := by decide +kernel
theorem d13_47 : decode c_13 47 = .ok (.ifCond .eq 7, 3) := by decide +kernel
theorem d13_50 : decode c_13 50 = .ok (.iconst 1, 1) := by decide +kernel
theorem d13_51 : decode c_13 51 = .ok (.goto 4, 3) := by decide +kernel
theorem d13_55 : decode c_13 55 = .ok (.ireturn, 1) := by decide +kernel
theorem d14_34 : decode c_14 34 = .ok (.iconst 0, 1) := by decide +kernel
theorem d14_35 : decode c_14 35 = .ok (.ireturn, 1) := by decide +kernel
theorem d13_54 : decode c_13 54 = .ok (.iconst 0, 1) := by decide +kernel
theorem d14_15 : decode c_14 15 = .ok (.aload_n 0, 1) := by decide +kernel
theorem d14_16 : decode c_14 16 = .ok (.iload_n 2, 1) := by decide +kernel
theorem d14_17 : decode c_14 17 = .ok (.baload, 1) := by decide +kernel
theorem d14_18 : decode c_14 18 = .ok (.aload_n 1, 1) := by decide +kernel
theorem d14_19 : decode c_14 19 = .ok (.iload_n 2, 1) := by decide +kernel
theorem d14_20 : decode c_14 20 = .ok (.baload, 1) := by decide +kernel
theorem d14_21 : decode c_14 21 = .ok (.if_icmp .eq 5, 3) := by decide +kernel
theorem d14_26 : decode c_14 26 = .ok (.iinc 2 1, 3) := by decide +kernel
theorem d14_29 : decode c_14 29 = .ok (.goto (-20), 3) := by decide +kernel
theorem d14_24 : decode c_14 24 = .ok (.iconst 0, 1) := by decide +kernel
theorem d14_25 : decode c_14 25 = .ok (.ireturn, 1) := by decide +kernel
theorem d8_34 : decode c_8 34 = .ok (.ifCond .eq 21, 3) := by decide +kernel
theorem d8_37 : decode c_8 37 = .ok (.aload_n 0, 1) := by decide +kernel
theorem d8_38 : decode c_8 38 = .ok (.getfield 31, 3) := by decide +kernel
theorem d8_41 : decode c_8 41 = .ok (.aload_n 2, 1) := by decide +kernel
theorem d8_42 : decode c_8 42 = .ok (.getfield 31, 3) := by decide +kernel
theorem d8_45 : decode c_8 45 = .ok (.invokevirtual 33, 3) := by decide +kernel
theorem d8_48 : decode c_8 48 = .ok (.ifCond .eq 7, 3) := by decide +kernel
theorem d8_51 : decode c_8 51 = .ok (.iconst 1, 1) := by decide +kernel
theorem d8_52 : decode c_8 52 = .ok (.goto 4, 3) := by decide +kernel
abbrev zs0 : String := "java/lang/String"
abbrev zs1 : String := "([CIILjava/lang/Void;)V"
abbrev zs2 : String := "java/lang/StringUTF16"
abbrev zs3 : String := "compress"
abbrev zs4 : String := "([CI[BII)I"
abbrev zs5 : String := "([CII)[B"
abbrev zs6 : String := "coderFromArrayLen"
abbrev zs7 : String := "COMPACT_STRINGS"
abbrev zs8 : String := "com/example/aspen/aspen/model/PolicyIdentifierEqualsPinLaw"
abbrev zs9 : String := "(ICC)Ljava/lang/String;"
abbrev zs10 : String := "com/example/aspen/aspen/model/PolicyIdentifier$Kind"
abbrev zs11 : String := "Lcom/example/aspen/aspen/model/PolicyIdentifier$Kind;"
abbrev zs12 : String := "POLICY_SET"
abbrev zs13 : String := "(Z)Lcom/example/aspen/aspen/model/PolicyIdentifier$Kind;"
abbrev zs14 : String := "java/util/Objects"
abbrev zs15 : String := "requireNonNull"
abbrev zs16 : String := "(Ljava/lang/Object;Ljava/lang/String;)Ljava/lang/Object;"
abbrev zs17 : String := "com/example/aspen/aspen/model/PolicyIdentifier"
abbrev zs18 : String := "Ljava/lang/String;"
abbrev zs19 : String := "(Lcom/example/aspen/aspen/model/PolicyIdentifier$Kind;Ljava/lang/String;Ljava/lang/String;)V"
abbrev zs20 : String := "(Ljava/lang/Object;)Z"
abbrev zs21 : String := "(ICCICC)Z"
abbrev zs22 : String := "java/lang/StringLatin1"
abbrev zm0 : MethodName := (⟨zs0, "<init>", zs1⟩ : MethodName)
abbrev zm1 : MethodName := (⟨zs0, "<init>", "([C)V"⟩ : MethodName)
abbrev zm2 : MethodName := (⟨zs2, zs3, zs4⟩ : MethodName)
abbrev zm3 : MethodName := (⟨zs2, zs3, zs5⟩ : MethodName)
abbrev zm4 : MethodName := (⟨zs2, zs6, "([BI)B"⟩ : MethodName)
abbrev zm5 : MethodName := (⟨zs8, "mk", zs9⟩ : MethodName)
abbrev zm6 : MethodName := (⟨zs8, "kind", zs13⟩ : MethodName)
abbrev zm7 : MethodName := (⟨zs14, zs15, zs16⟩ : MethodName)
abbrev zm8 : MethodName := (⟨zs17, "<init>", zs19⟩ : MethodName)
abbrev zm9 : MethodName := (⟨zs17, "equals", zs20⟩ : MethodName)
abbrev zm10 : MethodName := (⟨zs8, "same", zs21⟩ : MethodName)
abbrev zm11 : MethodName := (⟨zs22, "equals", "([B[B)Z"⟩ : MethodName)
abbrev zm12 : MethodName := (⟨zs0, "equals", zs20⟩ : MethodName)
def Q3_0 (Z : State) (a1 a2 : Addr) (h0 : Heap) (n0 : Nat) (v : Option Value) (h : Heap) (L : List Loc) : Prop := ∃ bv4 : Addr, ∃ cl4 : ClassId, v = none ∧ Fr n0 L ∧ Keep h0 h [a1] ∧ Fld Z h a1 zs0 "value" "[B" (.ref bv4) ∧ Fld Z h a1 zs0 "coder" "B" (.int 0) ∧ Arv Z h bv4 cl4 .byte (0 : Int32) [] (.int (0 : Int32))
theorem rm3_0 (l : Launch) {Z : State} {a0 : Array Value} (hw : own_W Z a0) (a1 a2 : Addr) (h0 : Heap) (n0 : Nat) (Z0 : n0 ≤ h0.size) (F6 : Fld Z h0 a1 zs0 "value" "[B" .null) (F7 : Fld Z h0 a1 zs0 "coder" "B" (.int 0)) (F9 : Exa Z h0 a1 zs0) (g12 : n0 ≤ a1) :
    MetFree l zm0 (head1 [Jvm.Cond.code zm0 c_3 6 none] (own_R 1 4 8 12)) (fun a U => a = #[(.ref a1), (.ref a2), (.int 0), (.int 0), .null] ∧ Z.Warmed39 U.vm ∧ U.heap = h0 ∧ CHv Z consts_1 U.vm h0 ∧ ∀ x ∈ ([a1] : List Addr), Safe Z consts_1 U.vm h0 x) (fun _ _ _ _ _ => True) (fun _ U o U' => ∃ v L, o = .returned v ∧ Q3_0 Z a1 a2 h0 n0 v U'.heap L ∧ CHr Z consts_1 U.vm U.heap U'.vm U'.heap ∧ ReturnedEndW U o U' L (own_R 1 4 8 12).cells (own_R 1 4 8 12).slots) := by
  refine MetFree.of_bodySF (plainFor_of_name pn_0) hisR ?_
  intro p e s m args below meth c s₁ Bd hml0 hP hK
  obtain ⟨rfl, hZ, hh, hC, hSL⟩ := hP
  have C0 := CHr.refl hC
  have hx := Bd.exec
  have hby := Bd.bytes
  have hml : c.maxLocals = 6 := hml0
  have hown : s.vm.findClass zs0 = some m.cls := findClass_of_methodNamed Bd.named
  have hnm := (name_of_methodNamed Bd.named Bd.method).1
  have X0 : Stand p l e (own_R 1 4 8 12) s m #[(.ref a1), (.ref a2), (.int 0), (.int 0), .null] below meth c s₁ [] 0 0 := Stand.of_body Bd
  have e0 : s₁.heap = h0 := by rw [← hh, Bd.state]; rfl
  have N0 := Fr.nil n0
  refine own_pre (g' := mkF m 0 (lc16 a1 a2 0 0) []) (ef_0 m a1 a2 0 0) ?_
  obtain ⟨T3, X3, e3, st3⟩ := initO X0 hx hZ hown (ww hw 15 rfl) (ww hw 16 rfl) (ww hw 17 rfl) e0 (g := (mkF m 1 (lc16 a1 a2 0 0) [(.ref a1)])) rfl (by rw [hml]; rfl) rfl (hb hby d3_1) (by decide) (W := 0) (by show 2 * 0 + _ ≤ _; exact Nat.le_of_eq rfl) (by decide)
  refine own_go (U' := T3.setTop (mkF m 5 (lc16 a1 a2 0 0) [(.int 0)])) (fun t k => oaloadN X0 hx hby d3_0 rfl rfl (st3 _ (oiloadN X3 hx hby d3_4 rfl k))) ?_
  obtain ⟨b4, T4, h4, k4, bv4, cl4, X4, e4, E4, hS4, hk4, hZ, hown, f4a, f4b, f4c, f4d, lt4, lv4, CR4, -, ns4, st4⟩ := ldcCH (s := s) (vm0 := s.vm) X3 hx hZ hown (ww hw 18 rfl) (own_wS hw) e3 ((State.WarmedH.refl s).since 0) (Nat.zero_le _) (own_EW hw) (List.mem_of_getElem? (i := 3) rfl) C0.1 (vs := []) (z := 0) ⟨by decide, by decide⟩ (by decide) (by decide) (g := (mkF m 9 (lc16 a1 a2 0 0) [(.ref a1)])) rfl (hb hby d3_9) (n := 0) (by decide) (by decide) (by decide) (by decide)
  have C1 := C0.trans CR4
  obtain ⟨T5, X5, e5, st5⟩ := getF X4 hx hZ hown (host := "") (Or.inl (ww hw 24 rfl)) Via.refl e4 f4c (g := (mkF m 11 (lc16 a1 a2 0 0) [(.ref b4), (.ref a1)])) rfl rfl (hb hby d3_11)
  have f8 : Fld Z h4 a1 zs0 "value" "[B" .null := (Fld.ext E4 F6)
  have f10 : Exa Z h4 a1 zs0 := (Exa.ext E4 F9)
  obtain ⟨T11, h11, X11, e11, W11, st11⟩ := putF X5 hx hZ hown (host := "") (Or.inl (ww hw 24 rfl)) Via.refl e5 f8 f10 (Or.inr ⟨(ww hw 20 rfl), rfl, hnm⟩) (ww hw 5 rfl) (ty := (.array .byte)) (by decide) rfl rfl (g := (mkF m 14 (lc16 a1 a2 0 0) [(.ref bv4), (.ref a1)])) rfl rfl (hb hby d3_14)
  have sf13 := (CR4.safe (F7.lt) (hSL a1 (List.mem_of_getElem? (i := 0) rfl)))
  have C2 := C1.trans (CHr.wr W11 sf13 C1.1)
  have N14 := Fr.snoc X11 N0 g12
  have f15 : Fld Z h11 a1 zs0 "value" "[B" (.ref bv4) := Fld.same W11 f8
  obtain ⟨b16, T16, h16, k16, bv16, cl16, X16, e16, E16, hS16, hk16, hZ, hown, f16a, f16b, f16c, f16d, lt16, lv16, CR16, -, ns16, st16⟩ := ldcCH (s := s) X11 hx hZ hown (ww hw 18 rfl) (own_wS hw) e11 hS4 (Nat.le_trans hk4 (Keep.of_wr W11).1) (own_EW hw) (List.mem_of_getElem? (i := 3) rfl) C2.1 (vs := []) (z := 0) ⟨by decide, by decide⟩ (by decide) (by decide) (g := (mkF m 18 (lc16 a1 a2 0 0) [(.ref a1)])) rfl (hb hby d3_18) (n := 0) (by decide) (by decide) (by decide) (by decide)
  have C3 := C2.trans CR16
  obtain ⟨T17, X17, e17, st17⟩ := getF X16 hx hZ hown (host := "") (Or.inl (ww hw 25 rfl)) Via.refl e16 f16b (g := (mkF m 20 (lc16 a1 a2 0 0) [(.ref b16), (.ref a1)])) rfl rfl (hb hby d3_20)
  have f18 : Fld Z h16 a1 zs0 "coder" "B" (.int 0) := (Fld.ext E16 (Fld.other W11 (Fld.ext E4 F7) (Or.inr (slot_ne (Or.inr (ww hw 21 rfl)) (Or.inr (ww hw 20 rfl)) (by decide) (t := .byte) (t' := (.array .byte)) (by decide) (by decide)))))
  have f19 : Exa Z h16 a1 zs0 := (Exa.ext E16 (Exa.wr W11 f10))
  obtain ⟨T20, h20, X20, e20, W20, st20⟩ := putFN X17 hx hZ hown (ww hw 25 rfl) Via.refl e17 f18 f19 (Or.inr ⟨(ww hw 21 rfl), rfl, hnm⟩) (ww hw 5 rfl) (ty := .byte) (v' := (.int 0)) (by decide) rfl (by decide) (g := (mkF m 23 (lc16 a1 a2 0 0) [(.int 0), (.ref a1)])) rfl rfl (hb hby d3_23)
  have sf21 := (CR16.safe (f15.lt) (Safe.wr W11 sf13 C1.1 sf13))
  have C4 := C3.trans (CHr.wr W20 sf21 C3.1)
  have N22 := Fr.snoc X20 N14 g12
  have f23 : Fld Z h20 a1 zs0 "coder" "B" (.int 0) := Fld.same W20 f18
  refine own_go (U' := T20.setTop (mkF m 26 (lc16 a1 a2 0 0) [])) (fun t k => oifN X3 hx hby d3_5 (by decide) (oaloadN X3 hx hby d3_8 rfl rfl (st4 _ (st5 _ (st11 _ (oaloadN X11 hx hby d3_17 rfl rfl (st16 _ (st17 _ (st20 _ k))))))))) ?_
  have f24 : Fld Z h20 a1 zs0 "value" "[B" (.ref bv4) := (Fld.other W20 (Fld.ext E16 f15) (Or.inr (slot_ne (Or.inr (ww hw 20 rfl)) (Or.inr (ww hw 21 rfl)) (by decide) (t := (.array .byte)) (t' := .byte) (by decide) (by decide))))
  have sf25 := (CR4.safe (F6.lt) (hSL a1 (List.mem_of_getElem? (i := 0) rfl)))
  have ne26 : a1 ≠ bv4 := (ns4 a1 sf25).2
  have f27 : Arv Z h20 bv4 cl4 .byte (0 : Int32) [] (.int (0 : Int32)) := (((f4d.other W11 (Ne.symm ne26)).ext E16).other W20 (Ne.symm ne26))
  obtain ⟨fs, hr, hrun, hended, hW, hsame⟩ := X20.leave (v := none) (fun _ => rfl)
  have hE := hS16.ended hW (by show _ ≤ T20.heap.size; rw [e20]; exact (Nat.le_trans hk16 (Keep.of_wr W20).1)) hsame
  refine own_out ⟨_, _, ?_, hrun, hended, _, _, rfl, ?_, ?_, ⟨_, rfl⟩, hE.1, hE.2.1, hE.2.2.mono (by decide) (by decide)⟩
  · exact X20.returnOut hx Bd.returns (hb hby d3_26) hr
  · show Q3_0 Z a1 a2 h0 n0 _ T20.heap _
    rw [e20]
    exact ⟨bv4, cl4, rfl, N22, (((((Keep.refl h0 [a1]).ext E4).wr W11 (Or.inl (List.mem_of_getElem? (i := 0) rfl))).ext E16).wr W20 (Or.inl (List.mem_of_getElem? (i := 0) rfl))), f24, f23, f27⟩
  · show CHr Z consts_1 s.vm s.heap T20.vm T20.heap; rw [hh, e20]; exact C4.trans (CHv.at (s := s) X20 hZ (own_EW hw) C4.1)
def Q2_1 (Z : State) (a1 a2 : Addr) (kc3 : ClassId) (h0 : Heap) (n0 : Nat) (v : Option Value) (h : Heap) (L : List Loc) : Prop := ∃ b12 : Addr, ∃ k13 : ClassId, v = none ∧ Fr n0 L ∧ Keep h0 h [a1] ∧ Fld Z h a1 zs0 "value" "[B" (.ref b12) ∧ Fld Z h a1 zs0 "coder" "B" (.int 0) ∧ Arv Z h b12 k13 .byte (0 : Int32) [] (.int (0 : Int32))
theorem rm2_1 (l : Launch) {Z : State} {a0 : Array Value} (hw : own_W Z a0) (a1 a2 : Addr) (kc3 : ClassId) (h0 : Heap) (n0 : Nat) (Z0 : n0 ≤ h0.size) (F4 : Arv Z h0 a2 kc3 .char (0 : Int32) [] (.int (0 : Int32))) (F7 : Fld Z h0 a1 zs0 "value" "[B" .null) (F8 : Fld Z h0 a1 zs0 "coder" "B" (.int 0)) (F9 : Exa Z h0 a1 zs0) (g10 : n0 ≤ a1) :
    MetFree l zm1 (head1 [Jvm.Cond.code zm1 c_2 2 none] (own_R 2 4 8 29)) (fun a U => a = #[(.ref a1), (.ref a2)] ∧ Z.Warmed39 U.vm ∧ U.heap = h0 ∧ CHv Z consts_1 U.vm h0 ∧ ∀ x ∈ ([a1] : List Addr), Safe Z consts_1 U.vm h0 x) (fun _ _ _ _ _ => True) (fun _ U o U' => ∃ v L, o = .returned v ∧ Q2_1 Z a1 a2 kc3 h0 n0 v U'.heap L ∧ CHr Z consts_1 U.vm U.heap U'.vm U'.heap ∧ ReturnedEndW U o U' L (own_R 2 4 8 29).cells (own_R 2 4 8 29).slots) := by
  refine MetFree.of_bodySF (plainFor_of_name pn_0) hisR ?_
  intro p e s m args below meth c s₁ Bd hml0 hP hK
  obtain ⟨rfl, hZ, hh, hC, hSL⟩ := hP
  have C0 := CHr.refl hC
  have hx := Bd.exec
  have hby := Bd.bytes
  have hml : c.maxLocals = 2 := hml0
  have hown : s.vm.findClass zs0 = some m.cls := findClass_of_methodNamed Bd.named
  have hnm := (name_of_methodNamed Bd.named Bd.method).1
  have X0 : Stand p l e (own_R 2 4 8 29) s m #[(.ref a1), (.ref a2)] below meth c s₁ [] 0 0 := Stand.of_body Bd
  have e0 : s₁.heap = h0 := by rw [← hh, Bd.state]; rfl
  have N0 := Fr.nil n0
  refine own_pre (g' := mkF m 0 (lc15 a1 a2) []) (ef_1 m a1 a2) ?_
  refine own_go (U' := s₁.setTop (mkF m 4 (lc15 a1 a2) [(.ref a2), (.int 0), (.ref a2), (.ref a1)])) (fun t k => oaloadN X0 hx hby d2_0 rfl rfl (oaloadN X0 hx hby d2_1 rfl rfl (oiconst X0 hx hby d2_2 (oaloadN X0 hx hby d2_3 rfl rfl k)))) ?_
  obtain ⟨cl5, Ar5, q5, S5, N5, H5, G5⟩ := id F4
  refine own_go (fun t k => X0.arraylength hx (own_at e0 Ar5.1) (State.isArrayOf_alike hZ.alike Ar5.2.1) (g := (mkF m 4 (lc15 a1 a2) [(.ref a2), (.int 0), (.ref a2), (.ref a1)])) rfl rfl (hb hby d2_4) _ k) ?_
  rw [len_of S5 N5]
  have sf11 := (hSL a1 (List.mem_of_getElem? (i := 0) rfl))
  obtain ⟨_, T6, L6, X6, hQ6, hS6, hZ, hown, CR6, st6⟩ := ocallIH (s := s) (vm0 := s.vm) X0 hx hZ zm0 rfl hown (ww hw 11 rfl) (ww hw 12 rfl) (by decide) (ww hw 14 rfl) (ww hw 6 rfl) e0 (rm3_0 l hw a1 a2 h0 n0 Z0 F7 F8 F9 g10) (st := [.null, (.int 0), (.int 0), (.ref a2), (.ref a1)]) rfl 0 rfl (by decide) (pc := 6) (Ls := (lc15 a1 a2)) hml rfl (lenOf pd_0 rfl) d2_6 hby ((State.WarmedH.refl s).since 0) (Nat.zero_le _) (own_EW hw) C0.1 (allS ⟨(F7.lt), sf11⟩ all0)
  obtain ⟨b12, k13, rfl, N6q, K6, f14, f15, f16⟩ := hQ6
  have C1 := C0.trans CR6
  have N17 := Fr.app N0 N6q
  refine own_go (U' := T6.setTop (mkF m 9 (lc15 a1 a2) [])) (fun t k => onull X0 hx hby d2_5 (st6 _ k)) ?_
  obtain ⟨fs, hr, hrun, hended, hW, hsame⟩ := X6.leave (v := none) (fun _ => rfl)
  have hE := hS6.ended hW (Nat.le_refl _) hsame
  refine own_out ⟨_, _, ?_, hrun, hended, _, _, rfl, ?_, ?_, ⟨_, rfl⟩, hE.1, hE.2.1, hE.2.2.mono (by decide) (by decide)⟩
  · exact X6.returnOut hx Bd.returns (hb hby d2_9) hr
  · show Q2_1 Z a1 a2 kc3 h0 n0 _ T6.heap _
    exact ⟨b12, k13, rfl, N17, (Keep.trans (Keep.refl h0 [a1]) K6 (allS (Or.inl (List.mem_of_getElem? (i := 0) rfl)) all0)), f14, f15, f16⟩
  · show CHr Z consts_1 s.vm s.heap T6.vm T6.heap; rw [hh]; exact C1.trans (CHv.at (s := s) X6 hZ (own_EW hw) C1.1)
def Q10_2 (Z : State) (a1 a2 : Addr) (p3 : Int32) (kc4 : ClassId) (kc10 : ClassId) (h0 : Heap) (n0 : Nat) (v : Option Value) (h : Heap) (L : List Loc) : Prop := v = some (.int 1) ∧ Fr n0 L ∧ Keep h0 h [a2] ∧ Arv Z h a2 kc10 .byte (1 : Int32) [(.int (p3.toInt8.toInt32))] (.int (0 : Int32))
theorem rm10_2 (l : Launch) {Z : State} {a0 : Array Value} (hw : own_W Z a0) (a1 a2 : Addr) (p3 : Int32) (kc4 : ClassId) (kc10 : ClassId) (h0 : Heap) (n0 : Nat) (Z0 : n0 ≤ h0.size) (F5 : Arv Z h0 a1 kc4 .char (1 : Int32) [(.int p3)] (.int (0 : Int32))) (hc8 : ¬ ((255 : Int32) < p3)) (hc9 : ¬ (p3 < (0 : Int32))) (F11 : Arv Z h0 a2 kc10 .byte (1 : Int32) [] (.int (0 : Int32))) (g15 : n0 ≤ a2) :
    own_MF l zm2 c_10 7 (some .int) (own_R 0 0 0 0) #[(.ref a1), (.int 0), (.ref a2), (.int 0), (.int 1)] Z h0 (Q10_2 Z a1 a2 p3 kc4 kc10 h0 n0) := by
  refine own_st (L := (lc21 a1 0 a2 0 1)) (own := zs2) (plainFor_of_name pn_1) rfl (fun m => ef_2 m a1 0 a2 0 1) fun p e s m below meth c s₁ Bd hml hZ hh hx hby hown hnm X0 e0 => ?_
  have N0 := Fr.nil n0
  refine own_go (U' := s₁.setTop (mkF m 7 (lc19 a1 0 a2 0 1 0) [(.int 1), (.int 0)])) (fun t k => oiconst X0 hx hby d10_0 (oistore X0 hx hby d10_1 (lc19 a1 0 a2 0 1 0) rfl (oiload X0 hx hby d10_3 rfl (oiload X0 hx hby d10_5 rfl k)))) ?_
  obtain ⟨cl6, Ar6, q6, S6, N6, H6, G6⟩ := id F5
  have hin7 : ¬ ((0 : Int32) < 0 ∨ cl6.slots.size ≤ ((0 : Int32)).toNatClampNeg) := inb_of S6 ⟨by decide, by decide⟩
  have hat7 : cl6.slots[((0 : Int32)).toNatClampNeg]? = some (.int p3) := Has.at H6 hin7 rfl
  refine own_go (U' := s₁.setTop (mkF m 20 (lc20 a1 0 a2 0 1 0 p3) [(.int 255), (.int p3)])) (fun t k => oicN X0 hx hby d10_7 (by decide) (oaloadN X0 hx hby d10_10 rfl rfl (oiloadN X0 hx hby d10_11 rfl (X0.caload hx (j := (0 : Int32)) (v := (.int p3)) (own_at e0 Ar6.1) (State.isArrayOf_alike hZ.alike Ar6.2.1) Ar6.2.2 hin7 hat7 (g := (mkF m 12 (lc19 a1 0 a2 0 1 0) [(.int 0), (.ref a1)])) rfl rfl (hb hby d10_12) _ (oistore X0 hx hby d10_13 (lc20 a1 0 a2 0 1 0 p3) rfl (oiload X0 hx hby d10_15 rfl (osipush X0 hx hby d10_17 k))))))) ?_
  have f12 : Arv Z h0 a2 kc10 .byte (1 : Int32) [(.int 0)] (.int (0 : Int32)) := F11.pad (pad_rep [] (.int (0 : Int32)) 1)
  obtain ⟨cl13, Ar13, q13, S13, N13, H13, G13⟩ := id f12
  have hin14 : ¬ ((0 : Int32) < 0 ∨ cl13.slots.size ≤ ((0 : Int32)).toNatClampNeg) := inb_of S13 ⟨by decide, by decide⟩
  obtain ⟨T14, h14, X14, e14, W14, st14⟩ := stB X0 hx hZ e0 Ar13 (j := (0 : Int32)) hin14 (g := (mkF m 31 (lc20 a1 0 a2 0 1 0 p3) [(.int (p3.toInt8.toInt32)), (.int 0), (.ref a2)])) rfl rfl (hb hby d10_31)
  rw [show nar .byte (p3.toInt8.toInt32) = (p3.toInt8.toInt32) from own_i2bb] at W14
  have N16 := Fr.snoc X14 N0 g15
  have f17 : Arv Z h14 a2 kc10 .byte (1 : Int32) [(.int (p3.toInt8.toInt32))] (.int (0 : Int32)) := Arv.set Ar13 q13 S13 N13 H13 G13 own_fitI W14 0 rfl (Nat.le_of_ble_eq_true rfl)
  refine own_go (U' := T14.setTop (mkF m 7 (lc20 a1 1 a2 1 1 1 p3) [(.int 1), (.int 1)])) (fun t k => oicY (pc := 20) X0 hx hby d10_20 26 (flt hc8).2.2.2 (by decide) (oaloadN X0 hx hby d10_26 rfl rfl (oiloadN X0 hx hby d10_27 rfl (oiload X0 hx hby d10_28 rfl (oi2b X0 hx hby d10_30 (st14 _ (oiinc X14 hx hby d10_32 (lc20 a1 1 a2 0 1 0 p3) rfl rfl (oiinc X14 hx hby d10_35 (lc20 a1 1 a2 1 1 0 p3) rfl rfl (oiinc X14 hx hby d10_38 (lc20 a1 1 a2 1 1 1 p3) rfl rfl (ogoto (pc := 41) X14 hx hby d10_41 3 (by decide) (oiload X14 hx hby d10_3 rfl (oiload X14 hx hby d10_5 rfl k)))))))))))) ?_
  refine own_go (U' := T14.setTop (mkF m 46 (lc20 a1 1 a2 1 1 1 p3) [(.int 1)])) (fun t k => oicY (pc := 7) X14 hx hby d10_7 44 (by decide) (by decide) (oiload X14 hx hby d10_44 rfl k)) ?_
  obtain ⟨fs, hr, hrun, hended, hW, hsame⟩ := X14.leave (v := some (.int 1)) (fun h => by rw [Bd.returns] at h; cases h)
  refine own_out ⟨_, _, ?_, hrun, hended, _, _, rfl, ?_, ⟨_, rfl⟩, hW, hsame.mono (by decide) (by decide)⟩
  · exact retI X14 hx Bd.returns (hb hby d10_46) hr
  · show Q10_2 Z a1 a2 p3 kc4 kc10 h0 n0 _ T14.heap _
    rw [e14]
    exact ⟨rfl, N16, ((Keep.refl h0 [a2]).wr W14 (Or.inl (List.mem_of_getElem? (i := 0) rfl))), f17⟩
def Q9_3 (Z : State) (a1 : Addr) (p5 : Int32) (kc6 : ClassId) (h0 : Heap) (n0 : Nat) (v : Option Value) (h : Heap) (L : List Loc) : Prop := ∃ b2 : Addr, ∃ k2 : ClassId, v = some (.ref b2) ∧ Fr n0 L ∧ Keep h0 h [] ∧ h0.size ≤ b2 ∧ Exa Z h b2 "[B" ∧ Arv Z h b2 k2 .byte (1 : Int32) [(.int (p5.toInt8.toInt32))] (.int (0 : Int32))
theorem rm9_3 (l : Launch) {Z : State} {a0 : Array Value} (hw : own_W Z a0) (a1 : Addr) (p5 : Int32) (kc6 : ClassId) (h0 : Heap) (n0 : Nat) (Z0 : n0 ≤ h0.size) (F7 : Arv Z h0 a1 kc6 .char (1 : Int32) [(.int p5)] (.int (0 : Int32))) (hc9 : ¬ ((255 : Int32) < p5)) (hc10 : ¬ (p5 < (0 : Int32))) :
    own_MF l zm3 c_9 6 (some (.array .byte)) (own_R 1 1 1 18) #[(.ref a1), (.int 0), (.int 1)] Z h0 (Q9_3 Z a1 p5 kc6 h0 n0) := by
  refine own_st (L := (lc17 a1 0 1)) (own := zs2) (plainFor_of_name pn_1) rfl (fun m => ef_3 m a1 0 1) fun p e s m below meth c s₁ Bd hml hZ hh hx hby hown hnm X0 e0 => ?_
  have N0 := Fr.nil n0
  obtain ⟨T2, h2, k2, X2, e2, E2, A2, B2, st2⟩ := newPE X0 hx hZ (ww hw 19 rfl) e0 (g := (mkF m 1 (lc17 a1 0 1) [(.int 1)])) rfl (hb hby d9_1) rfl (by decide) (cap := 1) (by decide) (by decide) (by decide) (by decide) (ad := "[B") (by decide)
  obtain ⟨b2, g2⟩ : ∃ z, z = h0.size := ⟨_, rfl⟩
  rw [← g2] at A2 B2 st2
  have f3 : Arv Z h2 b2 k2 .byte (1 : Int32) [] (.int (0 : Int32)) := Arv.new A2 (by decide)
  have f8 : Arv Z h2 a1 kc6 .char (1 : Int32) [(.int p5)] (.int (0 : Int32)) := (F7.ext E2)
  have g11 : n0 ≤ b2 := Nat.le_trans Z0 (Nat.le_of_eq g2.symm)
  have Z_1 : n0 ≤ h2.size := Nat.le_trans Z0 E2.1
  obtain ⟨_, T4, L4, X4, hQ4, st4⟩ := ocallS X2 hx hZ zm2 hown (ww hw 65 rfl) (ww hw 66 rfl) (by decide) (ww hw 67 rfl) (ww hw 63 rfl) e2 (rm10_2 l hw a1 b2 p5 kc6 k2 h2 n0 Z_1 f8 hc9 hc10 f3 g11) (st := [(.int 1), (.int 0), (.ref b2), (.int 0), (.ref a1)]) rfl 0 rfl (by decide) (pc := 9) (Ls := (lc18 a1 0 1 b2)) hml rfl (lenOf pd_2 rfl) d9_9 hby
  obtain ⟨rfl, N4q, K4, f12⟩ := hQ4
  have N13 := Fr.app N0 N4q
  refine own_go (U' := T4.setTop (mkF m 17 (lc22 a1 0 1 b2 1) [(.int 1), (.int 1)])) (fun t k => oiloadN X0 hx hby d9_0 rfl (st2 _ (oastoreN X2 hx hby d9_3 (lc18 a1 0 1 b2) rfl rfl (oaloadN X2 hx hby d9_4 rfl rfl (oiloadN X2 hx hby d9_5 rfl (oaloadN X2 hx hby d9_6 rfl rfl (oiconst X2 hx hby d9_7 (oiloadN X2 hx hby d9_8 rfl (st4 _ (oistore X4 hx hby d9_12 (lc22 a1 0 1 b2 1) rfl (oiload X4 hx hby d9_14 rfl (oiloadN X4 hx hby d9_16 rfl k)))))))))))) ?_
  refine own_go (U' := T4.setTop (mkF m 58 (lc22 a1 0 1 b2 1) [(.ref b2)])) (fun t k => oicY (pc := 17) X4 hx hby d9_17 57 (by decide) (by decide) (oaloadN X4 hx hby d9_57 rfl rfl k)) ?_
  have f14 : Exa Z T4.heap b2 "[B" := (B2.keep K4)
  obtain ⟨fs, hr, hrun, hended, hW, hsame⟩ := X4.leave (v := some (.ref b2)) (fun h => by rw [Bd.returns] at h; cases h)
  refine own_out ⟨_, _, ?_, hrun, hended, _, _, rfl, ?_, ⟨_, rfl⟩, hW, hsame.mono (by decide) (by decide)⟩
  · exact retOut X4 hx Bd.returns rfl (Or.inr (Or.inr (Or.inr (Or.inr ⟨rfl, rfl, rfl⟩)))) (hb hby d9_58) hr
  · show Q9_3 Z a1 p5 kc6 h0 n0 _ T4.heap _
    exact ⟨b2, k2, rfl, N13, (Keep.trans ((Keep.refl h0 []).ext E2) K4 (allS (Or.inr (Nat.le_of_eq g2.symm)) all0)), (Nat.le_of_eq g2.symm), f14, f12⟩
def Q11_4 (Z : State) (a1 : Addr) (p2 : Int32) (kc3 : ClassId) (h0 : Heap) (n0 : Nat) (v : Option Value) (h : Heap) (L : List Loc) : Prop := v = some (.int 0) ∧ Fr n0 L ∧ h = h0
theorem rm11_4 (l : Launch) {Z : State} {a0 : Array Value} (hw : own_W Z a0) (a1 : Addr) (p2 : Int32) (kc3 : ClassId) (h0 : Heap) (n0 : Nat) (Z0 : n0 ≤ h0.size) (F4 : Arv Z h0 a1 kc3 .byte (1 : Int32) [(.int p2)] (.int (0 : Int32))) :
    own_MF l zm4 c_11 2 (some .byte) (own_R 0 0 0 0) #[(.ref a1), (.int 1)] Z h0 (Q11_4 Z a1 p2 kc3 h0 n0) := by
  refine own_st (L := (lc24 a1 1)) (own := zs2) (plainFor_of_name pn_1) rfl (fun m => ef_4 m a1 1) fun p e s m below meth c s₁ Bd hml hZ hh hx hby hown hnm X0 e0 => ?_
  have N0 := Fr.nil n0
  refine own_go (U' := s₁.setTop (mkF m 2 (lc24 a1 1) [(.ref a1), (.int 1)])) (fun t k => oiloadN X0 hx hby d11_0 rfl (oaloadN X0 hx hby d11_1 rfl rfl k)) ?_
  obtain ⟨cl5, Ar5, q5, S5, N5, H5, G5⟩ := id F4
  refine own_go (fun t k => X0.arraylength hx (own_at e0 Ar5.1) (State.isArrayOf_alike hZ.alike Ar5.2.1) (g := (mkF m 2 (lc24 a1 1) [(.ref a1), (.int 1)])) rfl rfl (hb hby d11_2) _ k) ?_
  rw [len_of S5 N5]
  refine own_go (U' := s₁.setTop (mkF m 8 (lc24 a1 1) [(.int 0)])) (fun t k => oisub X0 hx hby d11_3 (obipush X0 hx hby d11_4 (oiushr X0 hx hby d11_6 (oi2b X0 hx hby d11_7 k)))) ?_
  obtain ⟨fs, hr, hrun, hended, hW, hsame⟩ := X0.leave (v := some (.int 0)) (fun h => by rw [Bd.returns] at h; cases h)
  refine own_out ⟨_, _, ?_, hrun, hended, _, _, rfl, ?_, ⟨_, rfl⟩, hW, hsame.mono (by decide) (by decide)⟩
  · exact retN X0 hx (t := .byte) Bd.returns (by simp) (hb hby d11_8) hr
  · show Q11_4 Z a1 p2 kc3 h0 n0 _ s₁.heap _
    rw [e0]
    exact ⟨rfl, N0, rfl⟩
def Q3_5 (Z : State) (a1 a2 : Addr) (p4 p9 : Int32) (kc10 : ClassId) (h0 : Heap) (n0 : Nat) (v : Option Value) (h : Heap) (L : List Loc) : Prop := ∃ b14 : Addr, ∃ k15 : ClassId, v = none ∧ Fr n0 L ∧ Keep h0 h [a1] ∧ h0.size ≤ b14 ∧ Fld Z h a1 zs0 "value" "[B" (.ref b14) ∧ Fld Z h a1 zs0 "coder" "B" (.int 0) ∧ Exa Z h b14 "[B" ∧ Arv Z h b14 k15 .byte (1 : Int32) [(.int (p9.toInt8.toInt32))] (.int (0 : Int32))
theorem rm3_5 (l : Launch) {Z : State} {a0 : Array Value} (hw : own_W Z a0) (a1 a2 : Addr) (p4 p9 : Int32) (kc10 : ClassId) (h0 : Heap) (n0 : Nat) (Z0 : n0 ≤ h0.size) (F5 : Sta Z h0 zs0 zs7 "Z" (.int p4)) (hc7 : ¬ (p4 = (0 : Int32))) (F11 : Arv Z h0 a2 kc10 .char (1 : Int32) [(.int p9)] (.int (0 : Int32))) (hc12 : ¬ ((255 : Int32) < p9)) (hc13 : ¬ (p9 < (0 : Int32))) (F22 : Fld Z h0 a1 zs0 "value" "[B" .null) (F23 : Fld Z h0 a1 zs0 "coder" "B" (.int 0)) (F25 : Exa Z h0 a1 zs0) (g28 : n0 ≤ a1) :
    own_MF l zm0 c_3 6 none (own_R 2 1 1 35) #[(.ref a1), (.ref a2), (.int 0), (.int 1), .null] Z h0 (Q3_5 Z a1 a2 p4 p9 kc10 h0 n0) := by
  refine own_st (L := (lc16 a1 a2 0 1)) (own := zs0) (plainFor_of_name pn_0) rfl (fun m => ef_0 m a1 a2 0 1) fun p e s m below meth c s₁ Bd hml hZ hh hx hby hown hnm X0 e0 => ?_
  have N0 := Fr.nil n0
  obtain ⟨T3, X3, e3, st3⟩ := initO X0 hx hZ hown (ww hw 15 rfl) (ww hw 16 rfl) (ww hw 17 rfl) e0 (g := (mkF m 1 (lc16 a1 a2 0 1) [(.ref a1)])) rfl (by rw [hml]; rfl) rfl (hb hby d3_1) (by decide) (W := 0) (by show 2 * 0 + _ ≤ _; exact Nat.le_of_eq rfl) (by decide)
  refine own_go (U' := T3.setTop (mkF m 5 (lc16 a1 a2 0 1) [(.int 1)])) (fun t k => oaloadN X0 hx hby d3_0 rfl rfl (st3 _ (oiloadN X3 hx hby d3_4 rfl k))) ?_
  obtain ⟨T6, X6, e6, st6⟩ := getS2 X3 hx hZ hown (host := "") (Or.inl (ww hw 60 rfl)) Via.refl e3 F5 (g := (mkF m 27 (lc16 a1 a2 0 1) [])) rfl (hb hby d3_27)
  refine own_go (U' := T6.setTop (mkF m 30 (lc16 a1 a2 0 1) [(.int p4)])) (fun t k => oifY (pc := 5) X3 hx hby d3_5 27 (by decide) (by decide) (st6 _ k)) ?_
  obtain ⟨_, T8, L8, X8, hQ8, st8⟩ := ocallS X6 hx hZ zm3 hown (ww hw 61 rfl) (ww hw 62 rfl) (by decide) (ww hw 64 rfl) (ww hw 63 rfl) e6 (rm9_3 l hw a2 p9 kc10 h0 n0 Z0 F11 hc12 hc13) (st := [(.int 1), (.int 0), (.ref a2)]) rfl 0 rfl (by decide) (pc := 36) (Ls := (lc16 a1 a2 0 1)) hml rfl (lenOf pd_3 rfl) d3_36 hby
  obtain ⟨b14, k15, rfl, N8q, K8, sz16, f17, f18⟩ := hQ8
  have N19 := Fr.app N0 N8q
  have Z_1 : n0 ≤ T8.heap.size := Nat.le_trans Z0 K8.1
  obtain ⟨_, T20, L20, X20, hQ20, st20⟩ := ocallS X8 hx hZ zm4 hown (ww hw 68 rfl) (ww hw 69 rfl) (by decide) (ww hw 70 rfl) (ww hw 63 rfl) rfl (rm11_4 l hw b14 (p9.toInt8.toInt32) k15 T8.heap n0 Z_1 f18) (st := [(.int 1), (.ref b14), (.ref a1)]) rfl 1 rfl (by decide) (pc := 45) (Ls := (lc23 a1 a2 0 1 b14)) hml rfl (lenOf pd_4 rfl) d3_45 hby
  obtain ⟨rfl, N20q, e20⟩ := hQ20
  have N21 := Fr.app N19 N20q
  have f24 : Fld Z T8.heap a1 zs0 "coder" "B" (.int 0) := (F23.keep K8 nin0)
  have f26 : Exa Z T8.heap a1 zs0 := (F25.keep K8)
  obtain ⟨T27, h27, X27, e27, W27, st27⟩ := putFN X20 hx hZ hown (ww hw 25 rfl) Via.refl e20 f24 f26 (Or.inr ⟨(ww hw 21 rfl), rfl, hnm⟩) (ww hw 5 rfl) (ty := .byte) (v' := (.int 0)) (by decide) rfl (by decide) (g := (mkF m 48 (lc23 a1 a2 0 1 b14) [(.int 0), (.ref a1)])) rfl rfl (hb hby d3_48)
  have N29 := Fr.snoc X27 N21 g28
  have f30 : Fld Z h27 a1 zs0 "coder" "B" (.int 0) := Fld.same W27 f24
  have f31 : Fld Z h27 a1 zs0 "value" "[B" .null := (Fld.other W27 (F22.keep K8 nin0) (Or.inr (slot_ne (Or.inr (ww hw 20 rfl)) (Or.inr (ww hw 21 rfl)) (by decide) (t := (.array .byte)) (t' := .byte) (by decide) (by decide))))
  have f32 : Exa Z h27 a1 zs0 := (Exa.wr W27 f26)
  obtain ⟨T33, h33, X33, e33, W33, st33⟩ := putF X27 hx hZ hown (host := "") (Or.inl (ww hw 24 rfl)) Via.refl e27 f31 f32 (Or.inr ⟨(ww hw 20 rfl), rfl, hnm⟩) (ww hw 5 rfl) (ty := (.array .byte)) (by decide) rfl rfl (g := (mkF m 54 (lc23 a1 a2 0 1 b14) [(.ref b14), (.ref a1)])) rfl rfl (hb hby d3_54)
  have N34 := Fr.snoc X33 N29 g28
  have f35 : Fld Z h33 a1 zs0 "value" "[B" (.ref b14) := Fld.same W33 f31
  refine own_go (U' := T33.setTop (mkF m 57 (lc23 a1 a2 0 1 b14) [])) (fun t k => oifN X6 hx hby d3_30 ((if0 _ _).trans (feq hc7).1) (oaloadN X6 hx hby d3_33 rfl rfl (oiloadN X6 hx hby d3_34 rfl (oiloadN X6 hx hby d3_35 rfl (st8 _ (oastore X8 hx hby d3_39 (lc23 a1 a2 0 1 b14) rfl rfl (oaloadN X8 hx hby d3_41 rfl rfl (oaload X8 hx hby d3_42 rfl rfl (oiloadN X8 hx hby d3_44 rfl (st20 _ (st27 _ (oaloadN X27 hx hby d3_51 rfl rfl (oaload X27 hx hby d3_52 rfl rfl (st33 _ k)))))))))))))) ?_
  have f36 : Fld Z h33 a1 zs0 "coder" "B" (.int 0) := (Fld.other W33 f30 (Or.inr (slot_ne (Or.inr (ww hw 21 rfl)) (Or.inr (ww hw 20 rfl)) (by decide) (t := .byte) (t' := (.array .byte)) (by decide) (by decide))))
  have f37 : Exa Z h33 b14 "[B" := (Exa.wr W33 (Exa.wr W27 f17))
  have ne38 : a1 ≠ b14 := Nat.ne_of_lt (nlt (F23.lt) sz16)
  have f39 : Arv Z h33 b14 k15 .byte (1 : Int32) [(.int (p9.toInt8.toInt32))] (.int (0 : Int32)) := ((f18.other W27 (Ne.symm ne38)).other W33 (Ne.symm ne38))
  obtain ⟨fs, hr, hrun, hended, hW, hsame⟩ := X33.leave (v := none) (fun _ => rfl)
  refine own_out ⟨_, _, ?_, hrun, hended, _, _, rfl, ?_, ⟨_, rfl⟩, hW, hsame.mono (by decide) (by decide)⟩
  · exact X33.returnOut hx Bd.returns (hb hby d3_57) hr
  · show Q3_5 Z a1 a2 p4 p9 kc10 h0 n0 _ T33.heap _
    rw [e33]
    exact ⟨b14, k15, rfl, N34, (((Keep.trans (Keep.refl h0 [a1]) K8 all0).wr W27 (Or.inl (List.mem_of_getElem? (i := 0) rfl))).wr W33 (Or.inl (List.mem_of_getElem? (i := 0) rfl))), sz16, f35, f36, f37, f39⟩
def Q2_6 (Z : State) (a1 a2 : Addr) (p3 : Int32) (kc4 : ClassId) (p8 : Int32) (h0 : Heap) (n0 : Nat) (v : Option Value) (h : Heap) (L : List Loc) : Prop := ∃ b17 : Addr, ∃ k18 : ClassId, v = none ∧ Fr n0 L ∧ Keep h0 h [a1] ∧ h0.size ≤ b17 ∧ Fld Z h a1 zs0 "value" "[B" (.ref b17) ∧ Fld Z h a1 zs0 "coder" "B" (.int 0) ∧ Exa Z h b17 "[B" ∧ Arv Z h b17 k18 .byte (1 : Int32) [(.int (p3.toInt8.toInt32))] (.int (0 : Int32))
theorem rm2_6 (l : Launch) {Z : State} {a0 : Array Value} (hw : own_W Z a0) (a1 a2 : Addr) (p3 : Int32) (kc4 : ClassId) (p8 : Int32) (h0 : Heap) (n0 : Nat) (Z0 : n0 ≤ h0.size) (F5 : Arv Z h0 a2 kc4 .char (1 : Int32) [(.int p3)] (.int (0 : Int32))) (F9 : Sta Z h0 zs0 zs7 "Z" (.int p8)) (hc10 : ¬ (p8 = (0 : Int32))) (hc11 : ¬ ((255 : Int32) < p3)) (hc12 : ¬ (p3 < (0 : Int32))) (F13 : Fld Z h0 a1 zs0 "value" "[B" .null) (F14 : Fld Z h0 a1 zs0 "coder" "B" (.int 0)) (F15 : Exa Z h0 a1 zs0) (g16 : n0 ≤ a1) :
    own_MF l zm1 c_2 2 none (own_R 3 1 1 52) #[(.ref a1), (.ref a2)] Z h0 (Q2_6 Z a1 a2 p3 kc4 p8 h0 n0) := by
  refine own_st (L := (lc15 a1 a2)) (own := zs0) (plainFor_of_name pn_0) rfl (fun m => ef_1 m a1 a2) fun p e s m below meth c s₁ Bd hml hZ hh hx hby hown hnm X0 e0 => ?_
  have N0 := Fr.nil n0
  refine own_go (U' := s₁.setTop (mkF m 4 (lc15 a1 a2) [(.ref a2), (.int 0), (.ref a2), (.ref a1)])) (fun t k => oaloadN X0 hx hby d2_0 rfl rfl (oaloadN X0 hx hby d2_1 rfl rfl (oiconst X0 hx hby d2_2 (oaloadN X0 hx hby d2_3 rfl rfl k)))) ?_
  obtain ⟨cl6, Ar6, q6, S6, N6, H6, G6⟩ := id F5
  refine own_go (fun t k => X0.arraylength hx (own_at e0 Ar6.1) (State.isArrayOf_alike hZ.alike Ar6.2.1) (g := (mkF m 4 (lc15 a1 a2) [(.ref a2), (.int 0), (.ref a2), (.ref a1)])) rfl rfl (hb hby d2_4) _ k) ?_
  rw [len_of S6 N6]
  obtain ⟨_, T7, L7, X7, hQ7, st7⟩ := ocallI X0 hx hZ zm0 rfl hown (ww hw 11 rfl) (ww hw 12 rfl) (by decide) (ww hw 14 rfl) (ww hw 6 rfl) e0 (rm3_5 l hw a1 a2 p8 p3 kc4 h0 n0 Z0 F9 hc10 F5 hc11 hc12 F13 F14 F15 g16) (st := [.null, (.int 1), (.int 0), (.ref a2), (.ref a1)]) rfl 0 rfl (by decide) (pc := 6) (Ls := (lc15 a1 a2)) hml rfl (lenOf pd_0 rfl) d2_6 hby
  obtain ⟨b17, k18, rfl, N7q, K7, sz19, f20, f21, f22, f23⟩ := hQ7
  have N24 := Fr.app N0 N7q
  refine own_go (U' := T7.setTop (mkF m 9 (lc15 a1 a2) [])) (fun t k => onull X0 hx hby d2_5 (st7 _ k)) ?_
  obtain ⟨fs, hr, hrun, hended, hW, hsame⟩ := X7.leave (v := none) (fun _ => rfl)
  refine own_out ⟨_, _, ?_, hrun, hended, _, _, rfl, ?_, ⟨_, rfl⟩, hW, hsame.mono (by decide) (by decide)⟩
  · exact X7.returnOut hx Bd.returns (hb hby d2_9) hr
  · show Q2_6 Z a1 a2 p3 kc4 p8 h0 n0 _ T7.heap _
    exact ⟨b17, k18, rfl, N24, (Keep.trans (Keep.refl h0 [a1]) K7 (allS (Or.inl (List.mem_of_getElem? (i := 0) rfl)) all0)), sz19, f20, f21, f22, f23⟩
def Q10_7 (Z : State) (a1 a2 : Addr) (p3 p4 : Int32) (kc5 : ClassId) (kc11 : ClassId) (h0 : Heap) (n0 : Nat) (v : Option Value) (h : Heap) (L : List Loc) : Prop := v = some (.int 2) ∧ Fr n0 L ∧ Keep h0 h [a2] ∧ Arv Z h a2 kc11 .byte (2 : Int32) [(.int (p3.toInt8.toInt32)), (.int (p4.toInt8.toInt32))] (.int (0 : Int32))
theorem rm10_7 (l : Launch) {Z : State} {a0 : Array Value} (hw : own_W Z a0) (a1 a2 : Addr) (p3 p4 : Int32) (kc5 : ClassId) (kc11 : ClassId) (h0 : Heap) (n0 : Nat) (Z0 : n0 ≤ h0.size) (F6 : Arv Z h0 a1 kc5 .char (2 : Int32) [(.int p3), (.int p4)] (.int (0 : Int32))) (hc9 : ¬ ((255 : Int32) < p3)) (hc10 : ¬ (p3 < (0 : Int32))) (F12 : Arv Z h0 a2 kc11 .byte (2 : Int32) [] (.int (0 : Int32))) (g16 : n0 ≤ a2) (ne19 : a1 ≠ a2) (hc23 : ¬ ((255 : Int32) < p4)) (hc24 : ¬ (p4 < (0 : Int32))) :
    own_MF l zm2 c_10 7 (some .int) (own_R 0 0 0 0) #[(.ref a1), (.int 0), (.ref a2), (.int 0), (.int 2)] Z h0 (Q10_7 Z a1 a2 p3 p4 kc5 kc11 h0 n0) := by
  refine own_st (L := (lc21 a1 0 a2 0 2)) (own := zs2) (plainFor_of_name pn_1) rfl (fun m => ef_2 m a1 0 a2 0 2) fun p e s m below meth c s₁ Bd hml hZ hh hx hby hown hnm X0 e0 => ?_
  have N0 := Fr.nil n0
  refine own_go (U' := s₁.setTop (mkF m 7 (lc19 a1 0 a2 0 2 0) [(.int 2), (.int 0)])) (fun t k => oiconst X0 hx hby d10_0 (oistore X0 hx hby d10_1 (lc19 a1 0 a2 0 2 0) rfl (oiload X0 hx hby d10_3 rfl (oiload X0 hx hby d10_5 rfl k)))) ?_
  obtain ⟨cl7, Ar7, q7, S7, N7, H7, G7⟩ := id F6
  have hin8 : ¬ ((0 : Int32) < 0 ∨ cl7.slots.size ≤ ((0 : Int32)).toNatClampNeg) := inb_of S7 ⟨by decide, by decide⟩
  have hat8 : cl7.slots[((0 : Int32)).toNatClampNeg]? = some (.int p3) := Has.at H7 hin8 rfl
  refine own_go (U' := s₁.setTop (mkF m 20 (lc20 a1 0 a2 0 2 0 p3) [(.int 255), (.int p3)])) (fun t k => oicN X0 hx hby d10_7 (by decide) (oaloadN X0 hx hby d10_10 rfl rfl (oiloadN X0 hx hby d10_11 rfl (X0.caload hx (j := (0 : Int32)) (v := (.int p3)) (own_at e0 Ar7.1) (State.isArrayOf_alike hZ.alike Ar7.2.1) Ar7.2.2 hin8 hat8 (g := (mkF m 12 (lc19 a1 0 a2 0 2 0) [(.int 0), (.ref a1)])) rfl rfl (hb hby d10_12) _ (oistore X0 hx hby d10_13 (lc20 a1 0 a2 0 2 0 p3) rfl (oiload X0 hx hby d10_15 rfl (osipush X0 hx hby d10_17 k))))))) ?_
  have f13 : Arv Z h0 a2 kc11 .byte (2 : Int32) [(.int 0)] (.int (0 : Int32)) := F12.pad (pad_rep [] (.int (0 : Int32)) 1)
  obtain ⟨cl14, Ar14, q14, S14, N14, H14, G14⟩ := id f13
  have hin15 : ¬ ((0 : Int32) < 0 ∨ cl14.slots.size ≤ ((0 : Int32)).toNatClampNeg) := inb_of S14 ⟨by decide, by decide⟩
  obtain ⟨T15, h15, X15, e15, W15, st15⟩ := stB X0 hx hZ e0 Ar14 (j := (0 : Int32)) hin15 (g := (mkF m 31 (lc20 a1 0 a2 0 2 0 p3) [(.int (p3.toInt8.toInt32)), (.int 0), (.ref a2)])) rfl rfl (hb hby d10_31)
  rw [show nar .byte (p3.toInt8.toInt32) = (p3.toInt8.toInt32) from own_i2bb] at W15
  have N17 := Fr.snoc X15 N0 g16
  have f18 : Arv Z h15 a2 kc11 .byte (2 : Int32) [(.int (p3.toInt8.toInt32))] (.int (0 : Int32)) := Arv.set Ar14 q14 S14 N14 H14 G14 own_fitI W15 0 rfl (Nat.le_of_ble_eq_true rfl)
  refine own_go (U' := T15.setTop (mkF m 7 (lc20 a1 1 a2 1 2 1 p3) [(.int 2), (.int 1)])) (fun t k => oicY (pc := 20) X0 hx hby d10_20 26 (flt hc9).2.2.2 (by decide) (oaloadN X0 hx hby d10_26 rfl rfl (oiloadN X0 hx hby d10_27 rfl (oiload X0 hx hby d10_28 rfl (oi2b X0 hx hby d10_30 (st15 _ (oiinc X15 hx hby d10_32 (lc20 a1 1 a2 0 2 0 p3) rfl rfl (oiinc X15 hx hby d10_35 (lc20 a1 1 a2 1 2 0 p3) rfl rfl (oiinc X15 hx hby d10_38 (lc20 a1 1 a2 1 2 1 p3) rfl rfl (ogoto (pc := 41) X15 hx hby d10_41 3 (by decide) (oiload X15 hx hby d10_3 rfl (oiload X15 hx hby d10_5 rfl k)))))))))))) ?_
  have f20 : Arv Z h15 a1 kc5 .char (2 : Int32) [(.int p3), (.int p4)] (.int (0 : Int32)) := (F6.other W15 ne19)
  obtain ⟨cl21, Ar21, q21, S21, N21, H21, G21⟩ := id f20
  have hin22 : ¬ ((1 : Int32) < 0 ∨ cl21.slots.size ≤ ((1 : Int32)).toNatClampNeg) := inb_of S21 ⟨by decide, by decide⟩
  have hat22 : cl21.slots[((1 : Int32)).toNatClampNeg]? = some (.int p4) := Has.at H21 hin22 rfl
  refine own_go (U' := T15.setTop (mkF m 20 (lc20 a1 1 a2 1 2 1 p4) [(.int 255), (.int p4)])) (fun t k => oicN X15 hx hby d10_7 (by decide) (oaloadN X15 hx hby d10_10 rfl rfl (oiloadN X15 hx hby d10_11 rfl (X15.caload hx (j := (1 : Int32)) (v := (.int p4)) (own_at e15 Ar21.1) (State.isArrayOf_alike hZ.alike Ar21.2.1) Ar21.2.2 hin22 hat22 (g := (mkF m 12 (lc20 a1 1 a2 1 2 1 p3) [(.int 1), (.ref a1)])) rfl rfl (hb hby d10_12) _ (oistore X15 hx hby d10_13 (lc20 a1 1 a2 1 2 1 p4) rfl (oiload X15 hx hby d10_15 rfl (osipush X15 hx hby d10_17 k))))))) ?_
  have f25 : Arv Z h15 a2 kc11 .byte (2 : Int32) [(.int (p3.toInt8.toInt32)), (.int 0)] (.int (0 : Int32)) := f18.pad (pad_rep [(.int (p3.toInt8.toInt32))] (.int (0 : Int32)) 1)
  obtain ⟨cl26, Ar26, q26, S26, N26, H26, G26⟩ := id f25
  have hin27 : ¬ ((1 : Int32) < 0 ∨ cl26.slots.size ≤ ((1 : Int32)).toNatClampNeg) := inb_of S26 ⟨by decide, by decide⟩
  obtain ⟨T27, h27, X27, e27, W27, st27⟩ := stB X15 hx hZ e15 Ar26 (j := (1 : Int32)) hin27 (g := (mkF m 31 (lc20 a1 1 a2 1 2 1 p4) [(.int (p4.toInt8.toInt32)), (.int 1), (.ref a2)])) rfl rfl (hb hby d10_31)
  rw [show nar .byte (p4.toInt8.toInt32) = (p4.toInt8.toInt32) from own_i2bb] at W27
  have N28 := Fr.snoc X27 N17 g16
  have f29 : Arv Z h27 a2 kc11 .byte (2 : Int32) [(.int (p3.toInt8.toInt32)), (.int (p4.toInt8.toInt32))] (.int (0 : Int32)) := Arv.set Ar26 q26 S26 N26 H26 G26 own_fitI W27 1 rfl (Nat.le_of_ble_eq_true rfl)
  refine own_go (U' := T27.setTop (mkF m 7 (lc20 a1 2 a2 2 2 2 p4) [(.int 2), (.int 2)])) (fun t k => oicY (pc := 20) X15 hx hby d10_20 26 (flt hc23).2.2.2 (by decide) (oaloadN X15 hx hby d10_26 rfl rfl (oiloadN X15 hx hby d10_27 rfl (oiload X15 hx hby d10_28 rfl (oi2b X15 hx hby d10_30 (st27 _ (oiinc X27 hx hby d10_32 (lc20 a1 2 a2 1 2 1 p4) rfl rfl (oiinc X27 hx hby d10_35 (lc20 a1 2 a2 2 2 1 p4) rfl rfl (oiinc X27 hx hby d10_38 (lc20 a1 2 a2 2 2 2 p4) rfl rfl (ogoto (pc := 41) X27 hx hby d10_41 3 (by decide) (oiload X27 hx hby d10_3 rfl (oiload X27 hx hby d10_5 rfl k)))))))))))) ?_
  refine own_go (U' := T27.setTop (mkF m 46 (lc20 a1 2 a2 2 2 2 p4) [(.int 2)])) (fun t k => oicY (pc := 7) X27 hx hby d10_7 44 (by decide) (by decide) (oiload X27 hx hby d10_44 rfl k)) ?_
  obtain ⟨fs, hr, hrun, hended, hW, hsame⟩ := X27.leave (v := some (.int 2)) (fun h => by rw [Bd.returns] at h; cases h)
  refine own_out ⟨_, _, ?_, hrun, hended, _, _, rfl, ?_, ⟨_, rfl⟩, hW, hsame.mono (by decide) (by decide)⟩
  · exact retI X27 hx Bd.returns (hb hby d10_46) hr
  · show Q10_7 Z a1 a2 p3 p4 kc5 kc11 h0 n0 _ T27.heap _
    rw [e27]
    exact ⟨rfl, N28, (((Keep.refl h0 [a2]).wr W15 (Or.inl (List.mem_of_getElem? (i := 0) rfl))).wr W27 (Or.inl (List.mem_of_getElem? (i := 0) rfl))), f29⟩
def Q9_8 (Z : State) (a1 : Addr) (p5 p6 : Int32) (kc7 : ClassId) (h0 : Heap) (n0 : Nat) (v : Option Value) (h : Heap) (L : List Loc) : Prop := ∃ b2 : Addr, ∃ k2 : ClassId, v = some (.ref b2) ∧ Fr n0 L ∧ Keep h0 h [] ∧ h0.size ≤ b2 ∧ Exa Z h b2 "[B" ∧ Arv Z h b2 k2 .byte (2 : Int32) [(.int (p5.toInt8.toInt32)), (.int (p6.toInt8.toInt32))] (.int (0 : Int32))
theorem rm9_8 (l : Launch) {Z : State} {a0 : Array Value} (hw : own_W Z a0) (a1 : Addr) (p5 p6 : Int32) (kc7 : ClassId) (h0 : Heap) (n0 : Nat) (Z0 : n0 ≤ h0.size) (F8 : Arv Z h0 a1 kc7 .char (2 : Int32) [(.int p5), (.int p6)] (.int (0 : Int32))) (hc10 : ¬ ((255 : Int32) < p5)) (hc11 : ¬ (p5 < (0 : Int32))) (hc14 : ¬ ((255 : Int32) < p6)) (hc15 : ¬ (p6 < (0 : Int32))) :
    own_MF l zm3 c_9 6 (some (.array .byte)) (own_R 1 1 2 18) #[(.ref a1), (.int 0), (.int 2)] Z h0 (Q9_8 Z a1 p5 p6 kc7 h0 n0) := by
  refine own_st (L := (lc17 a1 0 2)) (own := zs2) (plainFor_of_name pn_1) rfl (fun m => ef_3 m a1 0 2) fun p e s m below meth c s₁ Bd hml hZ hh hx hby hown hnm X0 e0 => ?_
  have N0 := Fr.nil n0
  obtain ⟨T2, h2, k2, X2, e2, E2, A2, B2, st2⟩ := newPE X0 hx hZ (ww hw 19 rfl) e0 (g := (mkF m 1 (lc17 a1 0 2) [(.int 2)])) rfl (hb hby d9_1) rfl (by decide) (cap := 2) (by decide) (by decide) (by decide) (by decide) (ad := "[B") (by decide)
  obtain ⟨b2, g2⟩ : ∃ z, z = h0.size := ⟨_, rfl⟩
  rw [← g2] at A2 B2 st2
  have f3 : Arv Z h2 b2 k2 .byte (2 : Int32) [] (.int (0 : Int32)) := Arv.new A2 (by decide)
  have f9 : Arv Z h2 a1 kc7 .char (2 : Int32) [(.int p5), (.int p6)] (.int (0 : Int32)) := (F8.ext E2)
  have g12 : n0 ≤ b2 := Nat.le_trans Z0 (Nat.le_of_eq g2.symm)
  have ne13 : a1 ≠ b2 := Nat.ne_of_lt (nlt (F8.lt) (Nat.le_of_eq g2.symm))
  have Z_1 : n0 ≤ h2.size := Nat.le_trans Z0 E2.1
  obtain ⟨_, T4, L4, X4, hQ4, st4⟩ := ocallS X2 hx hZ zm2 hown (ww hw 65 rfl) (ww hw 66 rfl) (by decide) (ww hw 67 rfl) (ww hw 63 rfl) e2 (rm10_7 l hw a1 b2 p5 p6 kc7 k2 h2 n0 Z_1 f9 hc10 hc11 f3 g12 ne13 hc14 hc15) (st := [(.int 2), (.int 0), (.ref b2), (.int 0), (.ref a1)]) rfl 0 rfl (by decide) (pc := 9) (Ls := (lc18 a1 0 2 b2)) hml rfl (lenOf pd_2 rfl) d9_9 hby
  obtain ⟨rfl, N4q, K4, f16⟩ := hQ4
  have N17 := Fr.app N0 N4q
  refine own_go (U' := T4.setTop (mkF m 17 (lc22 a1 0 2 b2 2) [(.int 2), (.int 2)])) (fun t k => oiloadN X0 hx hby d9_0 rfl (st2 _ (oastoreN X2 hx hby d9_3 (lc18 a1 0 2 b2) rfl rfl (oaloadN X2 hx hby d9_4 rfl rfl (oiloadN X2 hx hby d9_5 rfl (oaloadN X2 hx hby d9_6 rfl rfl (oiconst X2 hx hby d9_7 (oiloadN X2 hx hby d9_8 rfl (st4 _ (oistore X4 hx hby d9_12 (lc22 a1 0 2 b2 2) rfl (oiload X4 hx hby d9_14 rfl (oiloadN X4 hx hby d9_16 rfl k)))))))))))) ?_
  refine own_go (U' := T4.setTop (mkF m 58 (lc22 a1 0 2 b2 2) [(.ref b2)])) (fun t k => oicY (pc := 17) X4 hx hby d9_17 57 (by decide) (by decide) (oaloadN X4 hx hby d9_57 rfl rfl k)) ?_
  have f18 : Exa Z T4.heap b2 "[B" := (B2.keep K4)
  obtain ⟨fs, hr, hrun, hended, hW, hsame⟩ := X4.leave (v := some (.ref b2)) (fun h => by rw [Bd.returns] at h; cases h)
  refine own_out ⟨_, _, ?_, hrun, hended, _, _, rfl, ?_, ⟨_, rfl⟩, hW, hsame.mono (by decide) (by decide)⟩
  · exact retOut X4 hx Bd.returns rfl (Or.inr (Or.inr (Or.inr (Or.inr ⟨rfl, rfl, rfl⟩)))) (hb hby d9_58) hr
  · show Q9_8 Z a1 p5 p6 kc7 h0 n0 _ T4.heap _
    exact ⟨b2, k2, rfl, N17, (Keep.trans ((Keep.refl h0 []).ext E2) K4 (allS (Or.inr (Nat.le_of_eq g2.symm)) all0)), (Nat.le_of_eq g2.symm), f18, f16⟩
def Q11_9 (Z : State) (a1 : Addr) (p2 p3 : Int32) (kc4 : ClassId) (h0 : Heap) (n0 : Nat) (v : Option Value) (h : Heap) (L : List Loc) : Prop := v = some (.int 0) ∧ Fr n0 L ∧ h = h0
theorem rm11_9 (l : Launch) {Z : State} {a0 : Array Value} (hw : own_W Z a0) (a1 : Addr) (p2 p3 : Int32) (kc4 : ClassId) (h0 : Heap) (n0 : Nat) (Z0 : n0 ≤ h0.size) (F5 : Arv Z h0 a1 kc4 .byte (2 : Int32) [(.int p2), (.int p3)] (.int (0 : Int32))) :
    own_MF l zm4 c_11 2 (some .byte) (own_R 0 0 0 0) #[(.ref a1), (.int 2)] Z h0 (Q11_9 Z a1 p2 p3 kc4 h0 n0) := by
  refine own_st (L := (lc24 a1 2)) (own := zs2) (plainFor_of_name pn_1) rfl (fun m => ef_4 m a1 2) fun p e s m below meth c s₁ Bd hml hZ hh hx hby hown hnm X0 e0 => ?_
  have N0 := Fr.nil n0
  refine own_go (U' := s₁.setTop (mkF m 2 (lc24 a1 2) [(.ref a1), (.int 2)])) (fun t k => oiloadN X0 hx hby d11_0 rfl (oaloadN X0 hx hby d11_1 rfl rfl k)) ?_
  obtain ⟨cl6, Ar6, q6, S6, N6, H6, G6⟩ := id F5
  refine own_go (fun t k => X0.arraylength hx (own_at e0 Ar6.1) (State.isArrayOf_alike hZ.alike Ar6.2.1) (g := (mkF m 2 (lc24 a1 2) [(.ref a1), (.int 2)])) rfl rfl (hb hby d11_2) _ k) ?_
  rw [len_of S6 N6]
  refine own_go (U' := s₁.setTop (mkF m 8 (lc24 a1 2) [(.int 0)])) (fun t k => oisub X0 hx hby d11_3 (obipush X0 hx hby d11_4 (oiushr X0 hx hby d11_6 (oi2b X0 hx hby d11_7 k)))) ?_
  obtain ⟨fs, hr, hrun, hended, hW, hsame⟩ := X0.leave (v := some (.int 0)) (fun h => by rw [Bd.returns] at h; cases h)
  refine own_out ⟨_, _, ?_, hrun, hended, _, _, rfl, ?_, ⟨_, rfl⟩, hW, hsame.mono (by decide) (by decide)⟩
  · exact retN X0 hx (t := .byte) Bd.returns (by simp) (hb hby d11_8) hr
  · show Q11_9 Z a1 p2 p3 kc4 h0 n0 _ s₁.heap _
    rw [e0]
    exact ⟨rfl, N0, rfl⟩
def Q3_10 (Z : State) (a1 a2 : Addr) (p4 p9 p10 : Int32) (kc11 : ClassId) (h0 : Heap) (n0 : Nat) (v : Option Value) (h : Heap) (L : List Loc) : Prop := ∃ b17 : Addr, ∃ k18 : ClassId, v = none ∧ Fr n0 L ∧ Keep h0 h [a1] ∧ h0.size ≤ b17 ∧ Fld Z h a1 zs0 "value" "[B" (.ref b17) ∧ Fld Z h a1 zs0 "coder" "B" (.int 0) ∧ Exa Z h b17 "[B" ∧ Arv Z h b17 k18 .byte (2 : Int32) [(.int (p9.toInt8.toInt32)), (.int (p10.toInt8.toInt32))] (.int (0 : Int32))
theorem rm3_10 (l : Launch) {Z : State} {a0 : Array Value} (hw : own_W Z a0) (a1 a2 : Addr) (p4 p9 p10 : Int32) (kc11 : ClassId) (h0 : Heap) (n0 : Nat) (Z0 : n0 ≤ h0.size) (F5 : Sta Z h0 zs0 zs7 "Z" (.int p4)) (hc7 : ¬ (p4 = (0 : Int32))) (F12 : Arv Z h0 a2 kc11 .char (2 : Int32) [(.int p9), (.int p10)] (.int (0 : Int32))) (hc13 : ¬ ((255 : Int32) < p9)) (hc14 : ¬ (p9 < (0 : Int32))) (hc15 : ¬ ((255 : Int32) < p10)) (hc16 : ¬ (p10 < (0 : Int32))) (F25 : Fld Z h0 a1 zs0 "value" "[B" .null) (F26 : Fld Z h0 a1 zs0 "coder" "B" (.int 0)) (F28 : Exa Z h0 a1 zs0) (g31 : n0 ≤ a1) :
    own_MF l zm0 c_3 6 none (own_R 2 1 2 35) #[(.ref a1), (.ref a2), (.int 0), (.int 2), .null] Z h0 (Q3_10 Z a1 a2 p4 p9 p10 kc11 h0 n0) := by
  refine own_st (L := (lc16 a1 a2 0 2)) (own := zs0) (plainFor_of_name pn_0) rfl (fun m => ef_0 m a1 a2 0 2) fun p e s m below meth c s₁ Bd hml hZ hh hx hby hown hnm X0 e0 => ?_
  have N0 := Fr.nil n0
  obtain ⟨T3, X3, e3, st3⟩ := initO X0 hx hZ hown (ww hw 15 rfl) (ww hw 16 rfl) (ww hw 17 rfl) e0 (g := (mkF m 1 (lc16 a1 a2 0 2) [(.ref a1)])) rfl (by rw [hml]; rfl) rfl (hb hby d3_1) (by decide) (W := 0) (by show 2 * 0 + _ ≤ _; exact Nat.le_of_eq rfl) (by decide)
  refine own_go (U' := T3.setTop (mkF m 5 (lc16 a1 a2 0 2) [(.int 2)])) (fun t k => oaloadN X0 hx hby d3_0 rfl rfl (st3 _ (oiloadN X3 hx hby d3_4 rfl k))) ?_
  obtain ⟨T6, X6, e6, st6⟩ := getS2 X3 hx hZ hown (host := "") (Or.inl (ww hw 60 rfl)) Via.refl e3 F5 (g := (mkF m 27 (lc16 a1 a2 0 2) [])) rfl (hb hby d3_27)
  refine own_go (U' := T6.setTop (mkF m 30 (lc16 a1 a2 0 2) [(.int p4)])) (fun t k => oifY (pc := 5) X3 hx hby d3_5 27 (by decide) (by decide) (st6 _ k)) ?_
  obtain ⟨_, T8, L8, X8, hQ8, st8⟩ := ocallS X6 hx hZ zm3 hown (ww hw 61 rfl) (ww hw 62 rfl) (by decide) (ww hw 64 rfl) (ww hw 63 rfl) e6 (rm9_8 l hw a2 p9 p10 kc11 h0 n0 Z0 F12 hc13 hc14 hc15 hc16) (st := [(.int 2), (.int 0), (.ref a2)]) rfl 0 rfl (by decide) (pc := 36) (Ls := (lc16 a1 a2 0 2)) hml rfl (lenOf pd_3 rfl) d3_36 hby
  obtain ⟨b17, k18, rfl, N8q, K8, sz19, f20, f21⟩ := hQ8
  have N22 := Fr.app N0 N8q
  have Z_1 : n0 ≤ T8.heap.size := Nat.le_trans Z0 K8.1
  obtain ⟨_, T23, L23, X23, hQ23, st23⟩ := ocallS X8 hx hZ zm4 hown (ww hw 68 rfl) (ww hw 69 rfl) (by decide) (ww hw 70 rfl) (ww hw 63 rfl) rfl (rm11_9 l hw b17 (p9.toInt8.toInt32) (p10.toInt8.toInt32) k18 T8.heap n0 Z_1 f21) (st := [(.int 2), (.ref b17), (.ref a1)]) rfl 1 rfl (by decide) (pc := 45) (Ls := (lc23 a1 a2 0 2 b17)) hml rfl (lenOf pd_4 rfl) d3_45 hby
  obtain ⟨rfl, N23q, e23⟩ := hQ23
  have N24 := Fr.app N22 N23q
  have f27 : Fld Z T8.heap a1 zs0 "coder" "B" (.int 0) := (F26.keep K8 nin0)
  have f29 : Exa Z T8.heap a1 zs0 := (F28.keep K8)
  obtain ⟨T30, h30, X30, e30, W30, st30⟩ := putFN X23 hx hZ hown (ww hw 25 rfl) Via.refl e23 f27 f29 (Or.inr ⟨(ww hw 21 rfl), rfl, hnm⟩) (ww hw 5 rfl) (ty := .byte) (v' := (.int 0)) (by decide) rfl (by decide) (g := (mkF m 48 (lc23 a1 a2 0 2 b17) [(.int 0), (.ref a1)])) rfl rfl (hb hby d3_48)
  have N32 := Fr.snoc X30 N24 g31
  have f33 : Fld Z h30 a1 zs0 "coder" "B" (.int 0) := Fld.same W30 f27
  have f34 : Fld Z h30 a1 zs0 "value" "[B" .null := (Fld.other W30 (F25.keep K8 nin0) (Or.inr (slot_ne (Or.inr (ww hw 20 rfl)) (Or.inr (ww hw 21 rfl)) (by decide) (t := (.array .byte)) (t' := .byte) (by decide) (by decide))))
  have f35 : Exa Z h30 a1 zs0 := (Exa.wr W30 f29)
  obtain ⟨T36, h36, X36, e36, W36, st36⟩ := putF X30 hx hZ hown (host := "") (Or.inl (ww hw 24 rfl)) Via.refl e30 f34 f35 (Or.inr ⟨(ww hw 20 rfl), rfl, hnm⟩) (ww hw 5 rfl) (ty := (.array .byte)) (by decide) rfl rfl (g := (mkF m 54 (lc23 a1 a2 0 2 b17) [(.ref b17), (.ref a1)])) rfl rfl (hb hby d3_54)
  have N37 := Fr.snoc X36 N32 g31
  have f38 : Fld Z h36 a1 zs0 "value" "[B" (.ref b17) := Fld.same W36 f34
  refine own_go (U' := T36.setTop (mkF m 57 (lc23 a1 a2 0 2 b17) [])) (fun t k => oifN X6 hx hby d3_30 ((if0 _ _).trans (feq hc7).1) (oaloadN X6 hx hby d3_33 rfl rfl (oiloadN X6 hx hby d3_34 rfl (oiloadN X6 hx hby d3_35 rfl (st8 _ (oastore X8 hx hby d3_39 (lc23 a1 a2 0 2 b17) rfl rfl (oaloadN X8 hx hby d3_41 rfl rfl (oaload X8 hx hby d3_42 rfl rfl (oiloadN X8 hx hby d3_44 rfl (st23 _ (st30 _ (oaloadN X30 hx hby d3_51 rfl rfl (oaload X30 hx hby d3_52 rfl rfl (st36 _ k)))))))))))))) ?_
  have f39 : Fld Z h36 a1 zs0 "coder" "B" (.int 0) := (Fld.other W36 f33 (Or.inr (slot_ne (Or.inr (ww hw 21 rfl)) (Or.inr (ww hw 20 rfl)) (by decide) (t := .byte) (t' := (.array .byte)) (by decide) (by decide))))
  have f40 : Exa Z h36 b17 "[B" := (Exa.wr W36 (Exa.wr W30 f20))
  have ne41 : a1 ≠ b17 := Nat.ne_of_lt (nlt (F26.lt) sz19)
  have f42 : Arv Z h36 b17 k18 .byte (2 : Int32) [(.int (p9.toInt8.toInt32)), (.int (p10.toInt8.toInt32))] (.int (0 : Int32)) := ((f21.other W30 (Ne.symm ne41)).other W36 (Ne.symm ne41))
  obtain ⟨fs, hr, hrun, hended, hW, hsame⟩ := X36.leave (v := none) (fun _ => rfl)
  refine own_out ⟨_, _, ?_, hrun, hended, _, _, rfl, ?_, ⟨_, rfl⟩, hW, hsame.mono (by decide) (by decide)⟩
  · exact X36.returnOut hx Bd.returns (hb hby d3_57) hr
  · show Q3_10 Z a1 a2 p4 p9 p10 kc11 h0 n0 _ T36.heap _
    rw [e36]
    exact ⟨b17, k18, rfl, N37, (((Keep.trans (Keep.refl h0 [a1]) K8 all0).wr W30 (Or.inl (List.mem_of_getElem? (i := 0) rfl))).wr W36 (Or.inl (List.mem_of_getElem? (i := 0) rfl))), sz19, f38, f39, f40, f42⟩
def Q2_11 (Z : State) (a1 a2 : Addr) (p3 p4 : Int32) (kc5 : ClassId) (p9 : Int32) (h0 : Heap) (n0 : Nat) (v : Option Value) (h : Heap) (L : List Loc) : Prop := ∃ b20 : Addr, ∃ k21 : ClassId, v = none ∧ Fr n0 L ∧ Keep h0 h [a1] ∧ h0.size ≤ b20 ∧ Fld Z h a1 zs0 "value" "[B" (.ref b20) ∧ Fld Z h a1 zs0 "coder" "B" (.int 0) ∧ Exa Z h b20 "[B" ∧ Arv Z h b20 k21 .byte (2 : Int32) [(.int (p3.toInt8.toInt32)), (.int (p4.toInt8.toInt32))] (.int (0 : Int32))
theorem rm2_11 (l : Launch) {Z : State} {a0 : Array Value} (hw : own_W Z a0) (a1 a2 : Addr) (p3 p4 : Int32) (kc5 : ClassId) (p9 : Int32) (h0 : Heap) (n0 : Nat) (Z0 : n0 ≤ h0.size) (F6 : Arv Z h0 a2 kc5 .char (2 : Int32) [(.int p3), (.int p4)] (.int (0 : Int32))) (F10 : Sta Z h0 zs0 zs7 "Z" (.int p9)) (hc11 : ¬ (p9 = (0 : Int32))) (hc12 : ¬ ((255 : Int32) < p3)) (hc13 : ¬ (p3 < (0 : Int32))) (hc14 : ¬ ((255 : Int32) < p4)) (hc15 : ¬ (p4 < (0 : Int32))) (F16 : Fld Z h0 a1 zs0 "value" "[B" .null) (F17 : Fld Z h0 a1 zs0 "coder" "B" (.int 0)) (F18 : Exa Z h0 a1 zs0) (g19 : n0 ≤ a1) :
    own_MF l zm1 c_2 2 none (own_R 3 1 2 52) #[(.ref a1), (.ref a2)] Z h0 (Q2_11 Z a1 a2 p3 p4 kc5 p9 h0 n0) := by
  refine own_st (L := (lc15 a1 a2)) (own := zs0) (plainFor_of_name pn_0) rfl (fun m => ef_1 m a1 a2) fun p e s m below meth c s₁ Bd hml hZ hh hx hby hown hnm X0 e0 => ?_
  have N0 := Fr.nil n0
  refine own_go (U' := s₁.setTop (mkF m 4 (lc15 a1 a2) [(.ref a2), (.int 0), (.ref a2), (.ref a1)])) (fun t k => oaloadN X0 hx hby d2_0 rfl rfl (oaloadN X0 hx hby d2_1 rfl rfl (oiconst X0 hx hby d2_2 (oaloadN X0 hx hby d2_3 rfl rfl k)))) ?_
  obtain ⟨cl7, Ar7, q7, S7, N7, H7, G7⟩ := id F6
  refine own_go (fun t k => X0.arraylength hx (own_at e0 Ar7.1) (State.isArrayOf_alike hZ.alike Ar7.2.1) (g := (mkF m 4 (lc15 a1 a2) [(.ref a2), (.int 0), (.ref a2), (.ref a1)])) rfl rfl (hb hby d2_4) _ k) ?_
  rw [len_of S7 N7]
  obtain ⟨_, T8, L8, X8, hQ8, st8⟩ := ocallI X0 hx hZ zm0 rfl hown (ww hw 11 rfl) (ww hw 12 rfl) (by decide) (ww hw 14 rfl) (ww hw 6 rfl) e0 (rm3_10 l hw a1 a2 p9 p3 p4 kc5 h0 n0 Z0 F10 hc11 F6 hc12 hc13 hc14 hc15 F16 F17 F18 g19) (st := [.null, (.int 2), (.int 0), (.ref a2), (.ref a1)]) rfl 0 rfl (by decide) (pc := 6) (Ls := (lc15 a1 a2)) hml rfl (lenOf pd_0 rfl) d2_6 hby
  obtain ⟨b20, k21, rfl, N8q, K8, sz22, f23, f24, f25, f26⟩ := hQ8
  have N27 := Fr.app N0 N8q
  refine own_go (U' := T8.setTop (mkF m 9 (lc15 a1 a2) [])) (fun t k => onull X0 hx hby d2_5 (st8 _ k)) ?_
  obtain ⟨fs, hr, hrun, hended, hW, hsame⟩ := X8.leave (v := none) (fun _ => rfl)
  refine own_out ⟨_, _, ?_, hrun, hended, _, _, rfl, ?_, ⟨_, rfl⟩, hW, hsame.mono (by decide) (by decide)⟩
  · exact X8.returnOut hx Bd.returns (hb hby d2_9) hr
  · show Q2_11 Z a1 a2 p3 p4 kc5 p9 h0 n0 _ T8.heap _
    exact ⟨b20, k21, rfl, N27, (Keep.trans (Keep.refl h0 [a1]) K8 (allS (Or.inl (List.mem_of_getElem? (i := 0) rfl)) all0)), sz22, f23, f24, f25, f26⟩
def Q1_12 (Z : State) (p1 p2 p3 : Int32) (h0 : Heap) (n0 : Nat) (v : Option Value) (h : Heap) (L : List Loc) : Prop := ∃ b5 : Addr, v = some (.ref b5) ∧ Fr n0 L ∧ Keep h0 h [] ∧ h0.size ≤ b5 ∧ own_Str Z h b5 p1 p2 p3
theorem rm1_12 (l : Launch) {Z : State} {a0 : Array Value} (hw : own_W Z a0) (p1 p2 p3 : Int32) (h0 : Heap) (n0 : Nat) (Z0 : n0 ≤ h0.size) (hc4 : p1 = (0 : Int32)) (hc22 : ¬ (p1 < (0 : Int32))) (hc23 : p1 < (3 : Int32)) :
    MetFree l zm5 (head1 [Jvm.Cond.code zm5 c_1 3 (some (.object zs0))] (own_R 4 6 12 66)) (fun a U => a = #[(.int p1), (.int p2), (.int p3)] ∧ Z.Warmed39 U.vm ∧ U.heap = h0 ∧ CHv Z consts_1 U.vm h0 ∧ ∀ x ∈ ([] : List Addr), Safe Z consts_1 U.vm h0 x) (fun _ _ _ _ _ => True) (fun _ U o U' => ∃ v L, o = .returned v ∧ Q1_12 Z p1 p2 p3 h0 n0 v U'.heap L ∧ CHr Z consts_1 U.vm U.heap U'.vm U'.heap ∧ ReturnedEndW U o U' L (own_R 4 6 12 66).cells (own_R 4 6 12 66).slots) := by
  refine MetFree.of_bodySF (plainFor_of_name pn_2) hisR ?_
  intro p e s m args below meth c s₁ Bd hml0 hP hK
  obtain ⟨rfl, hZ, hh, hC, hSL⟩ := hP
  have C0 := CHr.refl hC
  have hx := Bd.exec
  have hby := Bd.bytes
  have hml : c.maxLocals = 3 := hml0
  have hown : s.vm.findClass zs8 = some m.cls := findClass_of_methodNamed Bd.named
  have hnm := (name_of_methodNamed Bd.named Bd.method).1
  have X0 : Stand p l e (own_R 4 6 12 66) s m #[(.int p1), (.int p2), (.int p3)] below meth c s₁ [] 0 0 := Stand.of_body Bd
  have e0 : s₁.heap = h0 := by rw [← hh, Bd.state]; rfl
  have N0 := Fr.nil n0
  refine own_pre (g' := mkF m 0 (lc14 p1 p2 p3) []) (ef_5 m p1 p2 p3) ?_
  refine own_go (U' := s₁.setTop (mkF m 1 (lc14 p1 p2 p3) [(.int p1)])) (fun t k => oiloadN X0 hx hby d1_0 rfl k) ?_
  obtain ⟨T5, h5, X5, e5, E5, A5, D5, -, st5⟩ := newO X0 hx hZ hown (ww hw 4 rfl) (ww hw 5 rfl) (ww hw 6 rfl) e0 (g := (mkF m 4 (lc14 p1 p2 p3) [])) rfl (hb hby d1_4) (by decide) (by decide)
  obtain ⟨b5, g5⟩ : ∃ z, z = h0.size := ⟨_, rfl⟩
  rw [← g5] at A5 D5 st5
  have C1 := C0.trans (CHr.ext E5 C0.1)
  have f6 : Fld Z h5 b5 zs0 "value" "[B" .null := D5 (Or.inr (ww hw 20 rfl)) (ty := (.array .byte)) (by decide)
  have f7 : Fld Z h5 b5 zs0 "coder" "B" (.int 0) := D5 (Or.inr (ww hw 21 rfl)) (ty := .byte) (by decide)
  obtain ⟨T8, h8, k8, X8, e8, E8, A8, B8, st8⟩ := newPE X5 hx hZ (ww hw 7 rfl) e5 (g := (mkF m 9 (lc14 p1 p2 p3) [(.int 0), (.ref b5), (.ref b5)])) rfl (hb hby d1_9) rfl (by decide) (cap := 0) (by decide) (by decide) (by decide) (by decide) (ad := "[C") (by decide)
  obtain ⟨b8, g8⟩ : ∃ z, z = h5.size := ⟨_, rfl⟩
  rw [← g8] at A8 B8 st8
  have C2 := C1.trans (CHr.ext E8 C1.1)
  have f9 : Arv Z h8 b8 k8 .char (0 : Int32) [] (.int (0 : Int32)) := Arv.new A8 (by decide)
  have f11 : Fld Z h8 b5 zs0 "value" "[B" .null := (Fld.ext E8 f6)
  have f12 : Fld Z h8 b5 zs0 "coder" "B" (.int 0) := (Fld.ext E8 f7)
  have f13 : Exa Z h8 b5 zs0 := (Exa.ext E8 A5)
  have g14 : n0 ≤ b5 := Nat.le_trans Z0 (Nat.le_of_eq g5.symm)
  have Z_1 : n0 ≤ h5.size := Nat.le_trans Z0 E5.1
  have Z_2 : n0 ≤ h8.size := Nat.le_trans Z_1 E8.1
  have sf15 := (Safe.ext E8 C1.1 (Safe.ext E5 C0.1 (Safe.new (Nat.le_of_eq g5.symm))))
  obtain ⟨_, T10, L10, X10, hQ10, hS10, hZ, hown, CR10, st10⟩ := ocallIH (s := s) (vm0 := s.vm) X8 hx hZ zm1 rfl hown (ww hw 8 rfl) (ww hw 9 rfl) (by decide) (ww hw 10 rfl) (ww hw 6 rfl) e8 (rm2_1 l hw b5 b8 k8 h8 n0 Z_2 f9 f11 f12 f13 g14) (st := [(.ref b8), (.ref b5), (.ref b5)]) rfl 1 rfl (by decide) (pc := 11) (Ls := (lc14 p1 p2 p3)) hml rfl (lenOf pd_1 rfl) d1_11 hby ((State.WarmedH.refl s).since 0) (Nat.zero_le _) (own_EW hw) C2.1 (allS ⟨(f13.lt), sf15⟩ all0)
  obtain ⟨b16, k17, rfl, N10q, K10, f18, f19, f20⟩ := hQ10
  have C3 := C2.trans CR10
  have N21 := Fr.app N0 N10q
  refine own_go (U' := T10.setTop (mkF m 14 (lc14 p1 p2 p3) [(.ref b5)])) (fun t k => oifN X0 hx hby d1_1 ((if0 _ _).trans (teq hc4).2) (st5 _ (odup X5 hx hby d1_7 rfl (oiconst X5 hx hby d1_8 (st8 _ (st10 _ k)))))) ?_
  have f24 : Exa Z T10.heap b5 zs0 := (f13.keep K10)
  obtain ⟨fs, hr, hrun, hended, hW, hsame⟩ := X10.leave (v := some (.ref b5)) (fun h => by rw [Bd.returns] at h; cases h)
  have hE := hS10.ended hW (Nat.le_refl _) hsame
  refine own_out ⟨_, _, ?_, hrun, hended, _, _, rfl, ?_, ?_, ⟨_, rfl⟩, hE.1, hE.2.1, hE.2.2.mono (by decide) (by decide)⟩
  · exact retOut X10 hx Bd.returns rfl (Or.inr (Or.inr (Or.inr (Or.inr ⟨rfl, rfl, rfl⟩)))) (hb hby d1_14) hr
  · show Q1_12 Z p1 p2 p3 h0 n0 _ T10.heap _
    exact ⟨b5, rfl, N21, (Keep.trans (((Keep.refl h0 []).ext E5).ext E8) K10 (allS (Or.inr (Nat.le_of_eq g5.symm)) all0)), (Nat.le_of_eq g5.symm), ⟨f24, _, _, f19, f18, Or.inl ⟨hc4, f20⟩⟩⟩
  · show CHr Z consts_1 s.vm s.heap T10.vm T10.heap; rw [hh]; exact C3.trans (CHv.at (s := s) X10 hZ (own_EW hw) C3.1)
def Q1_13 (Z : State) (p1 p2 p3 p21 : Int32) (h0 : Heap) (n0 : Nat) (v : Option Value) (h : Heap) (L : List Loc) : Prop := ∃ b6 : Addr, v = some (.ref b6) ∧ Fr n0 L ∧ Keep h0 h [] ∧ h0.size ≤ b6 ∧ own_Str Z h b6 p1 p2 p3
theorem rm1_13 (l : Launch) {Z : State} {a0 : Array Value} (hw : own_W Z a0) (p1 p2 p3 p21 : Int32) (h0 : Heap) (n0 : Nat) (Z0 : n0 ≤ h0.size) (hc4 : ¬ (p1 = (0 : Int32))) (hc5 : p1 = (1 : Int32)) (hc15 : ¬ (p2 < (0 : Int32))) (hc16 : p2 < (65536 : Int32)) (F22 : Sta Z h0 zs0 zs7 "Z" (.int p21)) (hc24 : ¬ (p21 = (0 : Int32))) (hc25 : ¬ ((255 : Int32) < p2)) (hc40 : ¬ (p1 < (0 : Int32))) (hc41 : p1 < (3 : Int32)) :
    MetFree l zm5 (head1 [Jvm.Cond.code zm5 c_1 3 (some (.object zs0))] (own_R 4 6 12 66)) (fun a U => a = #[(.int p1), (.int p2), (.int p3)] ∧ Z.Warmed39 U.vm ∧ U.heap = h0 ∧ CHv Z consts_1 U.vm h0 ∧ ∀ x ∈ ([] : List Addr), Safe Z consts_1 U.vm h0 x) (fun _ _ _ _ _ => True) (fun _ U o U' => ∃ v L, o = .returned v ∧ Q1_13 Z p1 p2 p3 p21 h0 n0 v U'.heap L ∧ CHr Z consts_1 U.vm U.heap U'.vm U'.heap ∧ ReturnedEndW U o U' L (own_R 4 6 12 66).cells (own_R 4 6 12 66).slots) := by
  refine MetFree.of_bodySF (plainFor_of_name pn_2) hisR ?_
  intro p e s m args below meth c s₁ Bd hml0 hP hK
  obtain ⟨rfl, hZ, hh, hC, hSL⟩ := hP
  have C0 := CHr.refl hC
  have hx := Bd.exec
  have hby := Bd.bytes
  have hml : c.maxLocals = 3 := hml0
  have hown : s.vm.findClass zs8 = some m.cls := findClass_of_methodNamed Bd.named
  have hnm := (name_of_methodNamed Bd.named Bd.method).1
  have X0 : Stand p l e (own_R 4 6 12 66) s m #[(.int p1), (.int p2), (.int p3)] below meth c s₁ [] 0 0 := Stand.of_body Bd
  have e0 : s₁.heap = h0 := by rw [← hh, Bd.state]; rfl
  have N0 := Fr.nil n0
  refine own_pre (g' := mkF m 0 (lc14 p1 p2 p3) []) (ef_5 m p1 p2 p3) ?_
  refine own_go (U' := s₁.setTop (mkF m 1 (lc14 p1 p2 p3) [(.int p1)])) (fun t k => oiloadN X0 hx hby d1_0 rfl k) ?_
  refine own_go (U' := s₁.setTop (mkF m 17 (lc14 p1 p2 p3) [(.int 1), (.int p1)])) (fun t k => oifY (pc := 1) X0 hx hby d1_1 15 ((if0 _ _).trans (feq hc4).2) (by decide) (oiloadN X0 hx hby d1_15 rfl (oiconst X0 hx hby d1_16 k))) ?_
  obtain ⟨T6, h6, X6, e6, E6, A6, D6, -, st6⟩ := newO X0 hx hZ hown (ww hw 4 rfl) (ww hw 5 rfl) (ww hw 6 rfl) e0 (g := (mkF m 20 (lc14 p1 p2 p3) [])) rfl (hb hby d1_20) (by decide) (by decide)
  obtain ⟨b6, g6⟩ : ∃ z, z = h0.size := ⟨_, rfl⟩
  rw [← g6] at A6 D6 st6
  have C1 := C0.trans (CHr.ext E6 C0.1)
  have f7 : Fld Z h6 b6 zs0 "value" "[B" .null := D6 (Or.inr (ww hw 20 rfl)) (ty := (.array .byte)) (by decide)
  have f8 : Fld Z h6 b6 zs0 "coder" "B" (.int 0) := D6 (Or.inr (ww hw 21 rfl)) (ty := .byte) (by decide)
  obtain ⟨T9, h9, k9, X9, e9, E9, A9, B9, st9⟩ := newPE X6 hx hZ (ww hw 7 rfl) e6 (g := (mkF m 25 (lc14 p1 p2 p3) [(.int 1), (.ref b6), (.ref b6)])) rfl (hb hby d1_25) rfl (by decide) (cap := 1) (by decide) (by decide) (by decide) (by decide) (ad := "[C") (by decide)
  obtain ⟨b9, g9⟩ : ∃ z, z = h6.size := ⟨_, rfl⟩
  rw [← g9] at A9 B9 st9
  have C2 := C1.trans (CHr.ext E9 C1.1)
  have f10 : Arv Z h9 b9 k9 .char (1 : Int32) [] (.int (0 : Int32)) := Arv.new A9 (by decide)
  have f11 : Arv Z h9 b9 k9 .char (1 : Int32) [(.int 0)] (.int (0 : Int32)) := f10.pad (pad_rep [] (.int (0 : Int32)) 1)
  obtain ⟨cl12, Ar12, q12, S12, N12, H12, G12⟩ := id f11
  have Z_1 : n0 ≤ h6.size := Nat.le_trans Z0 E6.1
  have g14 : n0 ≤ b9 := Nat.le_trans Z_1 (Nat.le_of_eq g9.symm)
  have hin13 : ¬ ((0 : Int32) < 0 ∨ cl12.slots.size ≤ ((0 : Int32)).toNatClampNeg) := inb_of S12 ⟨by decide, by decide⟩
  obtain ⟨T13, h13, X13, e13, W13, st13⟩ := stC X9 hx hZ e9 Ar12 (j := (0 : Int32)) hin13 (g := (mkF m 30 (lc14 p1 p2 p3) [(.int p2), (.int 0), (.ref b9), (.ref b9), (.ref b6), (.ref b6)])) rfl rfl (hb hby d1_30)
  rw [show nar .char p2 = p2 from own_i2c hc15 hc16] at W13
  have sf17 : Safe Z consts_1 s.vm h9 b9 := Safe.exa hZ.alike B9 (by decide) (by decide)
  have C3 := C2.trans (CHr.wr W13 sf17 C2.1)
  have N18 := Fr.snoc X13 N0 g14
  have f19 : Arv Z h13 b9 k9 .char (1 : Int32) [(.int p2)] (.int (0 : Int32)) := Arv.set Ar12 q12 S12 N12 H12 G12 (own_fitC hc15 hc16) W13 0 rfl (Nat.le_of_ble_eq_true rfl)
  have f23 : Sta Z h13 zs0 zs7 "Z" (.int p21) := (Sta.wr W13 (Sta.ext E9 (Sta.ext E6 F22)))
  have ne26 : b6 ≠ b9 := Nat.ne_of_lt (nlt (A6.lt) (Nat.le_of_eq g9.symm))
  have f27 : Fld Z h13 b6 zs0 "value" "[B" .null := (Fld.other W13 (Fld.ext E9 f7) (Or.inl ne26))
  have f28 : Fld Z h13 b6 zs0 "coder" "B" (.int 0) := (Fld.other W13 (Fld.ext E9 f8) (Or.inl ne26))
  have f29 : Exa Z h13 b6 zs0 := (Exa.wr W13 (Exa.ext E9 A6))
  have g30 : n0 ≤ b6 := Nat.le_trans Z0 (Nat.le_of_eq g6.symm)
  have Z_2 : n0 ≤ h9.size := Nat.le_trans Z_1 E9.1
  have Z_3 : n0 ≤ h13.size := Nat.le_trans Z_2 (Keep.of_wr W13).1
  obtain ⟨_, T20, L20, X20, hQ20, st20⟩ := ocallI X13 hx hZ zm1 rfl hown (ww hw 8 rfl) (ww hw 9 rfl) (by decide) (ww hw 10 rfl) (ww hw 6 rfl) e13 (rm2_6 l hw b6 b9 p2 k9 p21 h13 n0 Z_3 f19 f23 hc24 hc25 hc15 f27 f28 f29 g30) (st := [(.ref b9), (.ref b6), (.ref b6)]) rfl 1 rfl (by decide) (pc := 31) (Ls := (lc14 p1 p2 p3)) hml rfl (lenOf pd_1 rfl) d1_31 hby
  obtain ⟨b31, k32, rfl, N20q, K20, sz33, f34, f35, f36, f37⟩ := hQ20
  have sf38 := (Safe.wr W13 sf17 C2.1 (Safe.ext E9 C1.1 (Safe.ext E6 C0.1 (Safe.new (Nat.le_of_eq g6.symm)))))
  have C4 := C3.trans (CHr.keep K20 (allS sf38 all0) C3.1)
  have N39 := Fr.app N18 N20q
  refine own_go (U' := T20.setTop (mkF m 34 (lc14 p1 p2 p3) [(.ref b6)])) (fun t k => oicN X0 hx hby d1_17 (teq hc5).2 (st6 _ (odup X6 hx hby d1_23 rfl (oiconst X6 hx hby d1_24 (st9 _ (odup X9 hx hby d1_27 rfl (oiconst X9 hx hby d1_28 (oiloadN X9 hx hby d1_29 rfl (st13 _ (st20 _ k)))))))))) ?_
  have f42 : Exa Z T20.heap b6 zs0 := (f29.keep K20)
  obtain ⟨fs, hr, hrun, hended, hW, hsame⟩ := X20.leave (v := some (.ref b6)) (fun h => by rw [Bd.returns] at h; cases h)
  refine own_out ⟨_, _, ?_, hrun, hended, _, _, rfl, ?_, ?_, ReturnedEndW.of_narrow ⟨_, rfl⟩ hW (hsame.mono (by decide) (by decide))⟩
  · exact retOut X20 hx Bd.returns rfl (Or.inr (Or.inr (Or.inr (Or.inr ⟨rfl, rfl, rfl⟩)))) (hb hby d1_34) hr
  · show Q1_13 Z p1 p2 p3 p21 h0 n0 _ T20.heap _
    exact ⟨b6, rfl, N39, (Keep.trans ((((Keep.refl h0 []).ext E6).ext E9).wr W13 (Or.inr (Nat.le_trans E6.1 (Nat.le_of_eq g9.symm)))) K20 (allS (Or.inr (Nat.le_of_eq g6.symm)) all0)), (Nat.le_of_eq g6.symm), ⟨f42, _, _, f35, f34, Or.inr (Or.inl ⟨hc5, f37⟩)⟩⟩
  · show CHr Z consts_1 s.vm s.heap T20.vm T20.heap; rw [hh]; exact C4.trans (CHv.at (s := s) (vm0 := s.vm) X20 hZ (own_EW hw) C4.1)
def Q1_14 (Z : State) (p1 p2 p3 p30 : Int32) (h0 : Heap) (n0 : Nat) (v : Option Value) (h : Heap) (L : List Loc) : Prop := ∃ b6 : Addr, v = some (.ref b6) ∧ Fr n0 L ∧ Keep h0 h [] ∧ h0.size ≤ b6 ∧ own_Str Z h b6 p1 p2 p3
theorem rm1_14 (l : Launch) {Z : State} {a0 : Array Value} (hw : own_W Z a0) (p1 p2 p3 p30 : Int32) (h0 : Heap) (n0 : Nat) (Z0 : n0 ≤ h0.size) (hc4 : ¬ (p1 = (0 : Int32))) (hc5 : ¬ (p1 = (1 : Int32))) (hc15 : ¬ (p2 < (0 : Int32))) (hc16 : p2 < (65536 : Int32)) (hc23 : ¬ (p3 < (0 : Int32))) (hc24 : p3 < (65536 : Int32)) (F31 : Sta Z h0 zs0 zs7 "Z" (.int p30)) (hc33 : ¬ (p30 = (0 : Int32))) (hc34 : ¬ ((255 : Int32) < p2)) (hc35 : ¬ ((255 : Int32) < p3)) (hc50 : ¬ (p1 < (0 : Int32))) (hc51 : p1 < (3 : Int32)) :
    MetFree l zm5 (head1 [Jvm.Cond.code zm5 c_1 3 (some (.object zs0))] (own_R 4 6 12 66)) (fun a U => a = #[(.int p1), (.int p2), (.int p3)] ∧ Z.Warmed39 U.vm ∧ U.heap = h0 ∧ CHv Z consts_1 U.vm h0 ∧ ∀ x ∈ ([] : List Addr), Safe Z consts_1 U.vm h0 x) (fun _ _ _ _ _ => True) (fun _ U o U' => ∃ v L, o = .returned v ∧ Q1_14 Z p1 p2 p3 p30 h0 n0 v U'.heap L ∧ CHr Z consts_1 U.vm U.heap U'.vm U'.heap ∧ ReturnedEndW U o U' L (own_R 4 6 12 66).cells (own_R 4 6 12 66).slots) := by
  refine MetFree.of_bodySF (plainFor_of_name pn_2) hisR ?_
  intro p e s m args below meth c s₁ Bd hml0 hP hK
  obtain ⟨rfl, hZ, hh, hC, hSL⟩ := hP
  have C0 := CHr.refl hC
  have hx := Bd.exec
  have hby := Bd.bytes
  have hml : c.maxLocals = 3 := hml0
  have hown : s.vm.findClass zs8 = some m.cls := findClass_of_methodNamed Bd.named
  have hnm := (name_of_methodNamed Bd.named Bd.method).1
  have X0 : Stand p l e (own_R 4 6 12 66) s m #[(.int p1), (.int p2), (.int p3)] below meth c s₁ [] 0 0 := Stand.of_body Bd
  have e0 : s₁.heap = h0 := by rw [← hh, Bd.state]; rfl
  have N0 := Fr.nil n0
  refine own_pre (g' := mkF m 0 (lc14 p1 p2 p3) []) (ef_5 m p1 p2 p3) ?_
  refine own_go (U' := s₁.setTop (mkF m 1 (lc14 p1 p2 p3) [(.int p1)])) (fun t k => oiloadN X0 hx hby d1_0 rfl k) ?_
  refine own_go (U' := s₁.setTop (mkF m 17 (lc14 p1 p2 p3) [(.int 1), (.int p1)])) (fun t k => oifY (pc := 1) X0 hx hby d1_1 15 ((if0 _ _).trans (feq hc4).2) (by decide) (oiloadN X0 hx hby d1_15 rfl (oiconst X0 hx hby d1_16 k))) ?_
  obtain ⟨T6, h6, X6, e6, E6, A6, D6, -, st6⟩ := newO X0 hx hZ hown (ww hw 4 rfl) (ww hw 5 rfl) (ww hw 6 rfl) e0 (g := (mkF m 35 (lc14 p1 p2 p3) [])) rfl (hb hby d1_35) (by decide) (by decide)
  obtain ⟨b6, g6⟩ : ∃ z, z = h0.size := ⟨_, rfl⟩
  rw [← g6] at A6 D6 st6
  have C1 := C0.trans (CHr.ext E6 C0.1)
  have f7 : Fld Z h6 b6 zs0 "value" "[B" .null := D6 (Or.inr (ww hw 20 rfl)) (ty := (.array .byte)) (by decide)
  have f8 : Fld Z h6 b6 zs0 "coder" "B" (.int 0) := D6 (Or.inr (ww hw 21 rfl)) (ty := .byte) (by decide)
  obtain ⟨T9, h9, k9, X9, e9, E9, A9, B9, st9⟩ := newPE X6 hx hZ (ww hw 7 rfl) e6 (g := (mkF m 40 (lc14 p1 p2 p3) [(.int 2), (.ref b6), (.ref b6)])) rfl (hb hby d1_40) rfl (by decide) (cap := 2) (by decide) (by decide) (by decide) (by decide) (ad := "[C") (by decide)
  obtain ⟨b9, g9⟩ : ∃ z, z = h6.size := ⟨_, rfl⟩
  rw [← g9] at A9 B9 st9
  have C2 := C1.trans (CHr.ext E9 C1.1)
  have f10 : Arv Z h9 b9 k9 .char (2 : Int32) [] (.int (0 : Int32)) := Arv.new A9 (by decide)
  have f11 : Arv Z h9 b9 k9 .char (2 : Int32) [(.int 0)] (.int (0 : Int32)) := f10.pad (pad_rep [] (.int (0 : Int32)) 1)
  obtain ⟨cl12, Ar12, q12, S12, N12, H12, G12⟩ := id f11
  have Z_1 : n0 ≤ h6.size := Nat.le_trans Z0 E6.1
  have g14 : n0 ≤ b9 := Nat.le_trans Z_1 (Nat.le_of_eq g9.symm)
  have hin13 : ¬ ((0 : Int32) < 0 ∨ cl12.slots.size ≤ ((0 : Int32)).toNatClampNeg) := inb_of S12 ⟨by decide, by decide⟩
  obtain ⟨T13, h13, X13, e13, W13, st13⟩ := stC X9 hx hZ e9 Ar12 (j := (0 : Int32)) hin13 (g := (mkF m 45 (lc14 p1 p2 p3) [(.int p2), (.int 0), (.ref b9), (.ref b9), (.ref b6), (.ref b6)])) rfl rfl (hb hby d1_45)
  rw [show nar .char p2 = p2 from own_i2c hc15 hc16] at W13
  have sf17 : Safe Z consts_1 s.vm h9 b9 := Safe.exa hZ.alike B9 (by decide) (by decide)
  have C3 := C2.trans (CHr.wr W13 sf17 C2.1)
  have N18 := Fr.snoc X13 N0 g14
  have f19 : Arv Z h13 b9 k9 .char (2 : Int32) [(.int p2)] (.int (0 : Int32)) := Arv.set Ar12 q12 S12 N12 H12 G12 (own_fitC hc15 hc16) W13 0 rfl (Nat.le_of_ble_eq_true rfl)
  have f20 : Arv Z h13 b9 k9 .char (2 : Int32) [(.int p2), (.int 0)] (.int (0 : Int32)) := f19.pad (pad_rep [(.int p2)] (.int (0 : Int32)) 1)
  obtain ⟨cl21, Ar21, q21, S21, N21, H21, G21⟩ := id f20
  have hin22 : ¬ ((1 : Int32) < 0 ∨ cl21.slots.size ≤ ((1 : Int32)).toNatClampNeg) := inb_of S21 ⟨by decide, by decide⟩
  obtain ⟨T22, h22, X22, e22, W22, st22⟩ := stC X13 hx hZ e13 Ar21 (j := (1 : Int32)) hin22 (g := (mkF m 49 (lc14 p1 p2 p3) [(.int p3), (.int 1), (.ref b9), (.ref b9), (.ref b6), (.ref b6)])) rfl rfl (hb hby d1_49)
  rw [show nar .char p3 = p3 from own_i2c hc23 hc24] at W22
  have f25 : Exa Z h13 b9 "[C" := (Exa.wr W13 B9)
  have sf26 : Safe Z consts_1 s.vm h13 b9 := Safe.exa hZ.alike f25 (by decide) (by decide)
  have C4 := C3.trans (CHr.wr W22 sf26 C3.1)
  have N27 := Fr.snoc X22 N18 g14
  have f28 : Arv Z h22 b9 k9 .char (2 : Int32) [(.int p2), (.int p3)] (.int (0 : Int32)) := Arv.set Ar21 q21 S21 N21 H21 G21 (own_fitC hc23 hc24) W22 1 rfl (Nat.le_of_ble_eq_true rfl)
  have f32 : Sta Z h22 zs0 zs7 "Z" (.int p30) := (Sta.wr W22 (Sta.wr W13 (Sta.ext E9 (Sta.ext E6 F31))))
  have ne36 : b6 ≠ b9 := Nat.ne_of_lt (nlt (A6.lt) (Nat.le_of_eq g9.symm))
  have f37 : Fld Z h22 b6 zs0 "value" "[B" .null := (Fld.other W22 (Fld.other W13 (Fld.ext E9 f7) (Or.inl ne36)) (Or.inl ne36))
  have f38 : Fld Z h22 b6 zs0 "coder" "B" (.int 0) := (Fld.other W22 (Fld.other W13 (Fld.ext E9 f8) (Or.inl ne36)) (Or.inl ne36))
  have f39 : Exa Z h22 b6 zs0 := (Exa.wr W22 (Exa.wr W13 (Exa.ext E9 A6)))
  have g40 : n0 ≤ b6 := Nat.le_trans Z0 (Nat.le_of_eq g6.symm)
  have Z_2 : n0 ≤ h9.size := Nat.le_trans Z_1 E9.1
  have Z_3 : n0 ≤ h13.size := Nat.le_trans Z_2 (Keep.of_wr W13).1
  have Z_4 : n0 ≤ h22.size := Nat.le_trans Z_3 (Keep.of_wr W22).1
  obtain ⟨_, T29, L29, X29, hQ29, st29⟩ := ocallI X22 hx hZ zm1 rfl hown (ww hw 8 rfl) (ww hw 9 rfl) (by decide) (ww hw 10 rfl) (ww hw 6 rfl) e22 (rm2_11 l hw b6 b9 p2 p3 k9 p30 h22 n0 Z_4 f28 f32 hc33 hc34 hc15 hc35 hc23 f37 f38 f39 g40) (st := [(.ref b9), (.ref b6), (.ref b6)]) rfl 1 rfl (by decide) (pc := 50) (Ls := (lc14 p1 p2 p3)) hml rfl (lenOf pd_1 rfl) d1_50 hby
  obtain ⟨b41, k42, rfl, N29q, K29, sz43, f44, f45, f46, f47⟩ := hQ29
  have sf48 := (Safe.wr W22 sf26 C3.1 (Safe.wr W13 sf17 C2.1 (Safe.ext E9 C1.1 (Safe.ext E6 C0.1 (Safe.new (Nat.le_of_eq g6.symm))))))
  have C5 := C4.trans (CHr.keep K29 (allS sf48 all0) C4.1)
  have N49 := Fr.app N27 N29q
  refine own_go (U' := T29.setTop (mkF m 53 (lc14 p1 p2 p3) [(.ref b6)])) (fun t k => oicY (pc := 17) X0 hx hby d1_17 35 (feq hc5).2 (by decide) (st6 _ (odup X6 hx hby d1_38 rfl (oiconst X6 hx hby d1_39 (st9 _ (odup X9 hx hby d1_42 rfl (oiconst X9 hx hby d1_43 (oiloadN X9 hx hby d1_44 rfl (st13 _ (odup X13 hx hby d1_46 rfl (oiconst X13 hx hby d1_47 (oiloadN X13 hx hby d1_48 rfl (st22 _ (st29 _ k)))))))))))))) ?_
  have f52 : Exa Z T29.heap b6 zs0 := (f39.keep K29)
  obtain ⟨fs, hr, hrun, hended, hW, hsame⟩ := X29.leave (v := some (.ref b6)) (fun h => by rw [Bd.returns] at h; cases h)
  refine own_out ⟨_, _, ?_, hrun, hended, _, _, rfl, ?_, ?_, ReturnedEndW.of_narrow ⟨_, rfl⟩ hW (hsame.mono (by decide) (by decide))⟩
  · exact retOut X29 hx Bd.returns rfl (Or.inr (Or.inr (Or.inr (Or.inr ⟨rfl, rfl, rfl⟩)))) (hb hby d1_53) hr
  · show Q1_14 Z p1 p2 p3 p30 h0 n0 _ T29.heap _
    exact ⟨b6, rfl, N49, (Keep.trans (((((Keep.refl h0 []).ext E6).ext E9).wr W13 (Or.inr (Nat.le_trans E6.1 (Nat.le_of_eq g9.symm)))).wr W22 (Or.inr (Nat.le_trans E6.1 (Nat.le_of_eq g9.symm)))) K29 (allS (Or.inr (Nat.le_of_eq g6.symm)) all0)), (Nat.le_of_eq g6.symm), ⟨f52, _, _, f45, f44, Or.inr (Or.inr ⟨(own_is2 hc50 hc51 hc4 hc5), f47⟩)⟩⟩
  · show CHr Z consts_1 s.vm s.heap T29.vm T29.heap; rw [hh]; exact C5.trans (CHv.at (s := s) (vm0 := s.vm) X29 hZ (own_EW hw) C5.1)
def Qmg1_15 (Z : State) (p1 p2 p3 p6 : Int32) (h0 : Heap) (n0 : Nat) (v : Option Value) (h : Heap) (L : List Loc) : Prop := ∃ b5 : Addr, v = some (.ref b5) ∧ Fr n0 L ∧ Keep h0 h [] ∧ h0.size ≤ b5 ∧ own_Str Z h b5 p1 p2 p3
theorem mg1_15 (l : Launch) {Z : State} {a0 : Array Value} (hw : own_W Z a0) (p1 p2 p3 p6 : Int32) (h0 : Heap) (n0 : Nat) (Z0 : n0 ≤ h0.size) (hc4 : ¬ (p2 < (0 : Int32))) (hc5 : p2 < (65536 : Int32)) (F7 : Sta Z h0 zs0 zs7 "Z" (.int p6)) (hc8 : ¬ (p6 = (0 : Int32))) (hc9 : ¬ ((255 : Int32) < p2)) (hc10 : ¬ (p3 < (0 : Int32))) (hc11 : p3 < (65536 : Int32)) (hc12 : ¬ ((255 : Int32) < p3)) (hc13 : ¬ (p1 < (0 : Int32))) (hc14 : p1 < (3 : Int32)) :
    MetFree l zm5 (head1 [Jvm.Cond.code zm5 c_1 3 (some (.object zs0))] (own_R 4 6 12 66)) (fun a U => a = #[(.int p1), (.int p2), (.int p3)] ∧ Z.Warmed39 U.vm ∧ U.heap = h0 ∧ CHv Z consts_1 U.vm h0 ∧ ∀ x ∈ ([] : List Addr), Safe Z consts_1 U.vm h0 x) (fun _ _ _ _ _ => True) (fun _ U o U' => ∃ v L, o = .returned v ∧ Qmg1_15 Z p1 p2 p3 p6 h0 n0 v U'.heap L ∧ CHr Z consts_1 U.vm U.heap U'.vm U'.heap ∧ ReturnedEndW U o U' L (own_R 4 6 12 66).cells (own_R 4 6 12 66).slots) := by
  by_cases hm1 : p1 = (0 : Int32)
  · exact rm1_12 l hw p1 p2 p3 h0 n0 Z0 hm1 hc13 hc14
  · by_cases hm2 : p1 = (1 : Int32)
    · exact rm1_13 l hw p1 p2 p3 p6 h0 n0 Z0 hm1 hm2 hc4 hc5 F7 hc8 hc9 hc13 hc14
    · exact rm1_14 l hw p1 p2 p3 p6 h0 n0 Z0 hm1 hm2 hc4 hc5 hc10 hc11 F7 hc8 hc9 hc12 hc13 hc14
def Q5_16 (Z : State) (p1 : Int32) (a3 a6 : Addr) (h0 : Heap) (n0 : Nat) (v : Option Value) (h : Heap) (L : List Loc) : Prop := v = some (.ref (own_kd p1 a3 a6)) ∧ Fr n0 L ∧ h = h0
theorem rm5_16 (l : Launch) {Z : State} {a0 : Array Value} (hw : own_W Z a0) (p1 : Int32) (a3 a6 : Addr) (h0 : Heap) (n0 : Nat) (Z0 : n0 ≤ h0.size) (hc2 : p1 = (0 : Int32)) (F4 : Sta Z h0 zs10 "POLICY" zs11 (.ref a3)) (F7 : Sta Z h0 zs10 zs12 zs11 (.ref a6)) :
    own_MF l zm6 c_5 1 (some (.object zs10)) (own_R 0 0 0 0) #[(.int p1)] Z h0 (Q5_16 Z p1 a3 a6 h0 n0) := by
  refine own_st (L := (lc26 p1)) (own := zs8) (plainFor_of_name pn_2) rfl (fun m => ef_6 m p1) fun p e s m below meth c s₁ Bd hml hZ hh hx hby hown hnm X0 e0 => ?_
  have N0 := Fr.nil n0
  refine own_go (U' := s₁.setTop (mkF m 1 (lc26 p1) [(.int p1)])) (fun t k => oiloadN X0 hx hby d5_0 rfl k) ?_
  obtain ⟨T5, X5, e5, st5⟩ := getS2 X0 hx hZ hown (host := "") (Or.inl (ww hw 32 rfl)) Via.refl e0 F4 (g := (mkF m 10 (lc26 p1) [])) rfl (hb hby d5_10)
  refine own_go (U' := T5.setTop (mkF m 13 (lc26 p1) [(.ref a3)])) (fun t k => oifY (pc := 1) X0 hx hby d5_1 10 ((if0 _ _).trans (teq hc2).1) (by decide) (st5 _ k)) ?_
  obtain ⟨fs, hr, hrun, hended, hW, hsame⟩ := X5.leave (v := some (.ref a3)) (fun h => by rw [Bd.returns] at h; cases h)
  refine own_out ⟨_, _, ?_, hrun, hended, _, _, rfl, ?_, ⟨_, rfl⟩, hW, hsame.mono (by decide) (by decide)⟩
  · exact retOut X5 hx Bd.returns rfl (Or.inr (Or.inr (Or.inr (Or.inr ⟨rfl, rfl, rfl⟩)))) (hb hby d5_13) hr
  · show Q5_16 Z p1 a3 a6 h0 n0 _ T5.heap _
    rw [e5]
    exact ⟨(by simp [own_kd, hc2]), N0, rfl⟩
def Q5_17 (Z : State) (p1 : Int32) (a3 a6 : Addr) (h0 : Heap) (n0 : Nat) (v : Option Value) (h : Heap) (L : List Loc) : Prop := v = some (.ref (own_kd p1 a6 a3)) ∧ Fr n0 L ∧ h = h0
theorem rm5_17 (l : Launch) {Z : State} {a0 : Array Value} (hw : own_W Z a0) (p1 : Int32) (a3 a6 : Addr) (h0 : Heap) (n0 : Nat) (Z0 : n0 ≤ h0.size) (hc2 : ¬ (p1 = (0 : Int32))) (F4 : Sta Z h0 zs10 zs12 zs11 (.ref a3)) (F7 : Sta Z h0 zs10 "POLICY" zs11 (.ref a6)) :
    own_MF l zm6 c_5 1 (some (.object zs10)) (own_R 0 0 0 0) #[(.int p1)] Z h0 (Q5_17 Z p1 a3 a6 h0 n0) := by
  refine own_st (L := (lc26 p1)) (own := zs8) (plainFor_of_name pn_2) rfl (fun m => ef_6 m p1) fun p e s m below meth c s₁ Bd hml hZ hh hx hby hown hnm X0 e0 => ?_
  have N0 := Fr.nil n0
  refine own_go (U' := s₁.setTop (mkF m 1 (lc26 p1) [(.int p1)])) (fun t k => oiloadN X0 hx hby d5_0 rfl k) ?_
  obtain ⟨T5, X5, e5, st5⟩ := getS2 X0 hx hZ hown (host := "") (Or.inl (ww hw 88 rfl)) Via.refl e0 F4 (g := (mkF m 4 (lc26 p1) [])) rfl (hb hby d5_4)
  refine own_go (U' := T5.setTop (mkF m 13 (lc26 p1) [(.ref a3)])) (fun t k => oifN X0 hx hby d5_1 ((if0 _ _).trans (feq hc2).1) (st5 _ (ogoto (pc := 7) X5 hx hby d5_7 13 (by decide) k))) ?_
  obtain ⟨fs, hr, hrun, hended, hW, hsame⟩ := X5.leave (v := some (.ref a3)) (fun h => by rw [Bd.returns] at h; cases h)
  refine own_out ⟨_, _, ?_, hrun, hended, _, _, rfl, ?_, ⟨_, rfl⟩, hW, hsame.mono (by decide) (by decide)⟩
  · exact retOut X5 hx Bd.returns rfl (Or.inr (Or.inr (Or.inr (Or.inr ⟨rfl, rfl, rfl⟩)))) (hb hby d5_13) hr
  · show Q5_17 Z p1 a3 a6 h0 n0 _ T5.heap _
    rw [e5]
    exact ⟨(by simp [own_kd, hc2]), N0, rfl⟩
def Qmg5_18 (Z : State) (p1 : Int32) (a2 a4 : Addr) (h0 : Heap) (n0 : Nat) (v : Option Value) (h : Heap) (L : List Loc) : Prop := v = some (.ref (own_kd p1 a2 a4)) ∧ Fr n0 L ∧ h = h0
theorem mg5_18 (l : Launch) {Z : State} {a0 : Array Value} (hw : own_W Z a0) (p1 : Int32) (a2 a4 : Addr) (h0 : Heap) (n0 : Nat) (Z0 : n0 ≤ h0.size) (F3 : Sta Z h0 zs10 "POLICY" zs11 (.ref a2)) (F5 : Sta Z h0 zs10 zs12 zs11 (.ref a4)) :
    own_MF l zm6 c_5 1 (some (.object zs10)) (own_R 0 0 0 0) #[(.int p1)] Z h0 (Qmg5_18 Z p1 a2 a4 h0 n0) := by
  by_cases hm1 : p1 = (0 : Int32)
  · exact rm5_16 l hw p1 a2 a4 h0 n0 Z0 hm1 F3 F5
  · exact rm5_17 l hw p1 a4 a2 h0 n0 Z0 hm1 F5 F3
def Q7_19 (Z : State) (a1 a2 : Addr) (h0 : Heap) (n0 : Nat) (v : Option Value) (h : Heap) (L : List Loc) : Prop := v = some (.ref a1) ∧ Fr n0 L ∧ h = h0
theorem rm7_19 (l : Launch) {Z : State} {a0 : Array Value} (hw : own_W Z a0) (a1 a2 : Addr) (h0 : Heap) (n0 : Nat) (Z0 : n0 ≤ h0.size) :
    own_MF l zm7 c_7 2 (some (.object "java/lang/Object")) (own_R 0 0 0 0) #[(.ref a1), (.ref a2)] Z h0 (Q7_19 Z a1 a2 h0 n0) := by
  refine own_st (L := (lc15 a1 a2)) (own := zs14) (plainFor_of_name pn_3) rfl (fun m => ef_1 m a1 a2) fun p e s m below meth c s₁ Bd hml hZ hh hx hby hown hnm X0 e0 => ?_
  have N0 := Fr.nil n0
  refine own_go (U' := s₁.setTop (mkF m 14 (lc15 a1 a2) [(.ref a1)])) (fun t k => oaloadN X0 hx hby d7_0 rfl rfl (onnY (pc := 1) X0 hx hby d7_1 13 (by decide) (oaloadN X0 hx hby d7_13 rfl rfl k))) ?_
  obtain ⟨fs, hr, hrun, hended, hW, hsame⟩ := X0.leave (v := some (.ref a1)) (fun h => by rw [Bd.returns] at h; cases h)
  refine own_out ⟨_, _, ?_, hrun, hended, _, _, rfl, ?_, ⟨_, rfl⟩, hW, hsame.mono (by decide) (by decide)⟩
  · exact retOut X0 hx Bd.returns rfl (Or.inr (Or.inr (Or.inr (Or.inr ⟨rfl, rfl, rfl⟩)))) (hb hby d7_14) hr
  · show Q7_19 Z a1 a2 h0 n0 _ s₁.heap _
    rw [e0]
    exact ⟨rfl, N0, rfl⟩
def Q6_20 (Z : State) (a1 a2 a3 a4 : Addr) (p26 p27 p28 p41 p42 p43 : Int32) (h0 : Heap) (n0 : Nat) (v : Option Value) (h : Heap) (L : List Loc) : Prop := v = none ∧ Fr n0 L ∧ Keep h0 h [a1] ∧ Fld Z h a1 zs17 "kind" zs11 (.ref a2) ∧ Fld Z h a1 zs17 "id" zs18 (.ref a3) ∧ Fld Z h a1 zs17 "version" zs18 (.ref a4)
theorem rm6_20 (l : Launch) {Z : State} {a0 : Array Value} (hw : own_W Z a0) (a1 a2 a3 a4 : Addr) (p26 p27 p28 p41 p42 p43 : Int32) (h0 : Heap) (n0 : Nat) (Z0 : n0 ≤ h0.size) (F9 : Exa Z h0 a2 zs10) (F12 : Fld Z h0 a1 zs17 "kind" zs11 .null) (F13 : Fld Z h0 a1 zs17 "id" zs18 .null) (F14 : Fld Z h0 a1 zs17 "version" zs18 .null) (F16 : Exa Z h0 a1 zs17) (g19 : n0 ≤ a1) (F29 : own_Str Z h0 a3 p26 p27 p28) (F44 : own_Str Z h0 a4 p41 p42 p43) :
    MetFree l zm8 (head1 [Jvm.Cond.code zm8 c_6 4 none] (own_R 1 6 64 14)) (fun a U => a = #[(.ref a1), (.ref a2), (.ref a3), (.ref a4)] ∧ Z.Warmed39 U.vm ∧ U.heap = h0 ∧ CHv Z consts_1 U.vm h0 ∧ ∀ x ∈ ([] : List Addr), Safe Z consts_1 U.vm h0 x) (fun _ _ _ _ _ => True) (fun _ U o U' => ∃ v L, o = .returned v ∧ Q6_20 Z a1 a2 a3 a4 p26 p27 p28 p41 p42 p43 h0 n0 v U'.heap L ∧ CHr Z consts_1 U.vm U.heap U'.vm U'.heap ∧ ReturnedEndW U o U' L (own_R 1 6 64 14).cells (own_R 1 6 64 14).slots) := by
  refine MetFree.of_bodySF (plainFor_of_name pn_4) hisR ?_
  intro p e s m args below meth c s₁ Bd hml0 hP hK
  obtain ⟨rfl, hZ, hh, hC, hSL⟩ := hP
  have C0 := CHr.refl hC
  have hx := Bd.exec
  have hby := Bd.bytes
  have hml : c.maxLocals = 4 := hml0
  have hown : s.vm.findClass zs17 = some m.cls := findClass_of_methodNamed Bd.named
  have hnm := (name_of_methodNamed Bd.named Bd.method).1
  have X0 : Stand p l e (own_R 1 6 64 14) s m #[(.ref a1), (.ref a2), (.ref a3), (.ref a4)] below meth c s₁ [] 0 0 := Stand.of_body Bd
  have e0 : s₁.heap = h0 := by rw [← hh, Bd.state]; rfl
  have N0 := Fr.nil n0
  refine own_pre (g' := mkF m 0 (lc27 a1 a2 a3 a4) []) (ef_7 m a1 a2 a3 a4) ?_
  obtain ⟨T5, X5, e5, st5⟩ := initO X0 hx hZ hown (ww hw 38 rfl) (ww hw 16 rfl) (ww hw 17 rfl) e0 (g := (mkF m 1 (lc27 a1 a2 a3 a4) [(.ref a1)])) rfl (by rw [hml]; rfl) rfl (hb hby d6_1) (by decide) (W := 0) (by show 2 * 0 + _ ≤ _; exact Nat.le_of_eq rfl) (by decide)
  obtain ⟨b6, T6, h6, k6, bv6, cl6, X6, e6, E6, hS6, hk6, hZ, hown, f6a, f6b, f6c, f6d, lt6, lv6, CR6, -, ns6, st6⟩ := ldcCH (s := s) (vm0 := s.vm) X5 hx hZ hown (ww hw 39 rfl) (own_wS hw) e5 ((State.WarmedH.refl s).since 0) (Nat.zero_le _) (own_EW hw) (List.mem_of_getElem? (i := 0) rfl) C0.1 (vs := [(.int 107), (.int 105), (.int 110), (.int 100)]) (z := 4) ⟨by decide, by decide⟩ (by decide) (by decide) (g := (mkF m 6 (lc27 a1 a2 a3 a4) [(.ref a2), (.ref a1)])) rfl (hb hby d6_6) (n := 16) (by decide) (by decide) (by decide) (by decide)
  have C1 := C0.trans CR6
  have Z_1 : n0 ≤ h6.size := Nat.le_trans Z0 E6.1
  obtain ⟨_, T7, L7, X7, hQ7, st7⟩ := ocallS X6 hx hZ zm7 hown (ww hw 40 rfl) (ww hw 41 rfl) (by decide) (ww hw 43 rfl) (ww hw 42 rfl) e6 (rm7_19 l hw a2 b6 h6 n0 Z_1 ) (st := [(.ref b6), (.ref a2), (.ref a1)]) rfl 1 rfl (by decide) (pc := 8) (Ls := (lc27 a1 a2 a3 a4)) hml rfl (lenOf pd_7 rfl) d6_8 hby
  obtain ⟨rfl, N7q, e7⟩ := hQ7
  have N8 := Fr.app N0 N7q
  have f10 : Exa Z h6 a2 zs10 := (Exa.ext E6 F9)
  obtain ⟨T11, X11, e11, st11⟩ := castY X7 hx hZ hown (ww hw 44 rfl) e7 (Ins.self f10) (g := (mkF m 11 (lc27 a1 a2 a3 a4) [(.ref a2), (.ref a1)])) rfl rfl (hb hby d6_11)
  have f15 : Fld Z h6 a1 zs17 "kind" zs11 .null := (Fld.ext E6 F12)
  have f17 : Exa Z h6 a1 zs17 := (Exa.ext E6 F16)
  obtain ⟨T18, h18, X18, e18, W18, st18⟩ := putF X11 hx hZ hown (host := "") (Or.inl (ww hw 46 rfl)) Via.refl e11 f15 f17 (Or.inr ⟨(ww hw 47 rfl), rfl, hnm⟩) (ww hw 27 rfl) (ty := (.object zs10)) (by decide) rfl rfl (g := (mkF m 14 (lc27 a1 a2 a3 a4) [(.ref a2), (.ref a1)])) rfl rfl (hb hby d6_14)
  have sf20 : Safe Z consts_1 T6.vm h6 a1 := Safe.exa hZ.alike f17 (by decide) (by decide)
  have C2 := C1.trans (CHr.wr W18 sf20 C1.1)
  have N21 := Fr.snoc X18 N8 g19
  have f22 : Fld Z h18 a1 zs17 "kind" zs11 (.ref a2) := Fld.same W18 f15
  obtain ⟨b23, T23, h23, k23, bv23, cl23, X23, e23, E23, hS23, hk23, hZ, hown, f23a, f23b, f23c, f23d, lt23, lv23, CR23, -, ns23, st23⟩ := ldcCH (s := s) X18 hx hZ hown (ww hw 48 rfl) (own_wS hw) e18 hS6 (Nat.le_trans hk6 (Keep.of_wr W18).1) (own_EW hw) (List.mem_of_getElem? (i := 1) rfl) C2.1 (vs := [(.int 105), (.int 100)]) (z := 2) ⟨by decide, by decide⟩ (by decide) (by decide) (g := (mkF m 19 (lc27 a1 a2 a3 a4) [(.ref a3), (.ref a1)])) rfl (hb hby d6_19) (n := 8) (by decide) (by decide) (by decide) (by decide)
  have C3 := C2.trans CR23
  have Z_2 : n0 ≤ h18.size := Nat.le_trans Z_1 (Keep.of_wr W18).1
  have Z_3 : n0 ≤ h23.size := Nat.le_trans Z_2 E23.1
  obtain ⟨_, T24, L24, X24, hQ24, st24⟩ := ocallS X23 hx hZ zm7 hown (ww hw 40 rfl) (ww hw 41 rfl) (by decide) (ww hw 43 rfl) (ww hw 42 rfl) e23 (rm7_19 l hw a3 b23 h23 n0 Z_3 ) (st := [(.ref b23), (.ref a3), (.ref a1)]) rfl 1 rfl (by decide) (pc := 21) (Ls := (lc27 a1 a2 a3 a4)) hml rfl (lenOf pd_7 rfl) d6_21 hby
  obtain ⟨rfl, N24q, e24⟩ := hQ24
  have N25 := Fr.app N21 N24q
  have f30 : own_Str Z h23 a3 p26 p27 p28 := (own_Str.ext (own_Str.keep (own_Str.ext F29 E6) (Keep.of_wr W18) (allS ⟨_, _, a0, f17, by decide, (ww hw 27 rfl)⟩ all0)) E23)
  obtain ⟨T31, X31, e31, st31⟩ := castY X24 hx hZ hown (ww hw 49 rfl) e24 (Ins.self (own_Str.E f30)) (g := (mkF m 24 (lc27 a1 a2 a3 a4) [(.ref a3), (.ref a1)])) rfl rfl (hb hby d6_24)
  have f32 : Fld Z h23 a1 zs17 "id" zs18 .null := (Fld.ext E23 (Fld.other W18 (Fld.ext E6 F13) (Or.inr (slot_ne (Or.inr (ww hw 51 rfl)) (Or.inr (ww hw 47 rfl)) (by decide) (t := (.object zs0)) (t' := (.object zs10)) (by decide) (by decide)))))
  have f33 : Exa Z h23 a1 zs17 := (Exa.ext E23 (Exa.wr W18 f17))
  obtain ⟨T34, h34, X34, e34, W34, st34⟩ := putF X31 hx hZ hown (host := "") (Or.inl (ww hw 50 rfl)) Via.refl e31 f32 f33 (Or.inr ⟨(ww hw 51 rfl), rfl, hnm⟩) (ww hw 27 rfl) (ty := (.object zs0)) (by decide) rfl rfl (g := (mkF m 27 (lc27 a1 a2 a3 a4) [(.ref a3), (.ref a1)])) rfl rfl (hb hby d6_27)
  have sf35 : Safe Z consts_1 T23.vm h23 a1 := Safe.exa hZ.alike f33 (by decide) (by decide)
  have C4 := C3.trans (CHr.wr W34 sf35 C3.1)
  have N36 := Fr.snoc X34 N25 g19
  have f37 : Fld Z h34 a1 zs17 "id" zs18 (.ref a3) := Fld.same W34 f32
  obtain ⟨b38, T38, h38, k38, bv38, cl38, X38, e38, E38, hS38, hk38, hZ, hown, f38a, f38b, f38c, f38d, lt38, lv38, CR38, -, ns38, st38⟩ := ldcCH (s := s) X34 hx hZ hown (ww hw 52 rfl) (own_wS hw) e34 hS23 (Nat.le_trans hk23 (Keep.of_wr W34).1) (own_EW hw) (List.mem_of_getElem? (i := 2) rfl) C4.1 (vs := [(.int 118), (.int 101), (.int 114), (.int 115), (.int 105), (.int 111), (.int 110)]) (z := 7) ⟨by decide, by decide⟩ (by decide) (by decide) (g := (mkF m 32 (lc27 a1 a2 a3 a4) [(.ref a4), (.ref a1)])) rfl (hb hby d6_32) (n := 28) (by decide) (by decide) (by decide) (by decide)
  have C5 := C4.trans CR38
  have Z_4 : n0 ≤ h34.size := Nat.le_trans Z_3 (Keep.of_wr W34).1
  have Z_5 : n0 ≤ h38.size := Nat.le_trans Z_4 E38.1
  obtain ⟨_, T39, L39, X39, hQ39, st39⟩ := ocallS X38 hx hZ zm7 hown (ww hw 40 rfl) (ww hw 41 rfl) (by decide) (ww hw 43 rfl) (ww hw 42 rfl) e38 (rm7_19 l hw a4 b38 h38 n0 Z_5 ) (st := [(.ref b38), (.ref a4), (.ref a1)]) rfl 1 rfl (by decide) (pc := 34) (Ls := (lc27 a1 a2 a3 a4)) hml rfl (lenOf pd_7 rfl) d6_34 hby
  obtain ⟨rfl, N39q, e39⟩ := hQ39
  have N40 := Fr.app N36 N39q
  have f45 : own_Str Z h38 a4 p41 p42 p43 := (own_Str.ext (own_Str.keep (own_Str.ext (own_Str.keep (own_Str.ext F44 E6) (Keep.of_wr W18) (allS ⟨_, _, a0, (Exa.ext E6 F16), by decide, (ww hw 27 rfl)⟩ all0)) E23) (Keep.of_wr W34) (allS ⟨_, _, a0, f33, by decide, (ww hw 27 rfl)⟩ all0)) E38)
  obtain ⟨T46, X46, e46, st46⟩ := castY X39 hx hZ hown (ww hw 49 rfl) e39 (Ins.self (own_Str.E f45)) (g := (mkF m 37 (lc27 a1 a2 a3 a4) [(.ref a4), (.ref a1)])) rfl rfl (hb hby d6_37)
  have f47 : Fld Z h38 a1 zs17 "version" zs18 .null := (Fld.ext E38 (Fld.other W34 (Fld.ext E23 (Fld.other W18 (Fld.ext E6 F14) (Or.inr (slot_ne (Or.inr (ww hw 54 rfl)) (Or.inr (ww hw 47 rfl)) (by decide) (t := (.object zs0)) (t' := (.object zs10)) (by decide) (by decide))))) (Or.inr (slot_ne (Or.inr (ww hw 54 rfl)) (Or.inr (ww hw 51 rfl)) (by decide) (t := (.object zs0)) (t' := (.object zs0)) (by decide) (by decide)))))
  have f48 : Exa Z h38 a1 zs17 := (Exa.ext E38 (Exa.wr W34 f33))
  obtain ⟨T49, h49, X49, e49, W49, st49⟩ := putF X46 hx hZ hown (host := "") (Or.inl (ww hw 53 rfl)) Via.refl e46 f47 f48 (Or.inr ⟨(ww hw 54 rfl), rfl, hnm⟩) (ww hw 27 rfl) (ty := (.object zs0)) (by decide) rfl rfl (g := (mkF m 40 (lc27 a1 a2 a3 a4) [(.ref a4), (.ref a1)])) rfl rfl (hb hby d6_40)
  have sf50 : Safe Z consts_1 T38.vm h38 a1 := Safe.exa hZ.alike f48 (by decide) (by decide)
  have C6 := C5.trans (CHr.wr W49 sf50 C5.1)
  have N51 := Fr.snoc X49 N40 g19
  have f52 : Fld Z h49 a1 zs17 "version" zs18 (.ref a4) := Fld.same W49 f47
  refine own_go (U' := T49.setTop (mkF m 43 (lc27 a1 a2 a3 a4) [])) (fun t k => oaloadN X0 hx hby d6_0 rfl rfl (st5 _ (oaloadN X5 hx hby d6_4 rfl rfl (oaloadN X5 hx hby d6_5 rfl rfl (st6 _ (st7 _ (st11 _ (st18 _ (oaloadN X18 hx hby d6_17 rfl rfl (oaloadN X18 hx hby d6_18 rfl rfl (st23 _ (st24 _ (st31 _ (st34 _ (oaloadN X34 hx hby d6_30 rfl rfl (oaloadN X34 hx hby d6_31 rfl rfl (st38 _ (st39 _ (st46 _ (st49 _ k)))))))))))))))))))) ?_
  have f53 : Fld Z h49 a1 zs17 "kind" zs11 (.ref a2) := (Fld.other W49 (Fld.ext E38 (Fld.other W34 (Fld.ext E23 f22) (Or.inr (slot_ne (Or.inr (ww hw 47 rfl)) (Or.inr (ww hw 51 rfl)) (by decide) (t := (.object zs10)) (t' := (.object zs0)) (by decide) (by decide))))) (Or.inr (slot_ne (Or.inr (ww hw 47 rfl)) (Or.inr (ww hw 54 rfl)) (by decide) (t := (.object zs10)) (t' := (.object zs0)) (by decide) (by decide))))
  have f54 : Fld Z h49 a1 zs17 "id" zs18 (.ref a3) := (Fld.other W49 (Fld.ext E38 f37) (Or.inr (slot_ne (Or.inr (ww hw 51 rfl)) (Or.inr (ww hw 54 rfl)) (by decide) (t := (.object zs0)) (t' := (.object zs0)) (by decide) (by decide))))
  obtain ⟨fs, hr, hrun, hended, hW, hsame⟩ := X49.leave (v := none) (fun _ => rfl)
  have hE := hS38.ended hW (by show _ ≤ T49.heap.size; rw [e49]; exact (Nat.le_trans hk38 (Keep.of_wr W49).1)) hsame
  refine own_out ⟨_, _, ?_, hrun, hended, _, _, rfl, ?_, ?_, ⟨_, rfl⟩, hE.1, hE.2.1, hE.2.2.mono (by decide) (by decide)⟩
  · exact X49.returnOut hx Bd.returns (hb hby d6_43) hr
  · show Q6_20 Z a1 a2 a3 a4 p26 p27 p28 p41 p42 p43 h0 n0 _ T49.heap _
    rw [e49]
    exact ⟨rfl, N51, (((((((Keep.refl h0 [a1]).ext E6).wr W18 (Or.inl (List.mem_of_getElem? (i := 0) rfl))).ext E23).wr W34 (Or.inl (List.mem_of_getElem? (i := 0) rfl))).ext E38).wr W49 (Or.inl (List.mem_of_getElem? (i := 0) rfl))), f53, f54, f52⟩
  · show CHr Z consts_1 s.vm s.heap T49.vm T49.heap; rw [hh, e49]; exact C6.trans (CHv.at (s := s) X49 hZ (own_EW hw) C6.1)
def Q8_21 (Z : State) (a1 : Addr) (h0 : Heap) (n0 : Nat) (v : Option Value) (h : Heap) (L : List Loc) : Prop := v = some (.int 0) ∧ Fr n0 L ∧ h = h0
theorem rm8_21 (l : Launch) {Z : State} {a0 : Array Value} (hw : own_W Z a0) (a1 : Addr) (h0 : Heap) (n0 : Nat) (Z0 : n0 ≤ h0.size) :
    own_MF l zm9 c_8 3 (some .boolean) (own_R 0 0 0 0) #[(.ref a1), .null] Z h0 (Q8_21 Z a1 h0 n0) := by
  refine own_st (L := (lc30 a1)) (own := zs17) (plainFor_of_name pn_4) rfl (fun m => ef_8 m a1) fun p e s m below meth c s₁ Bd hml hZ hh hx hby hown hnm X0 e0 => ?_
  have N0 := Fr.nil n0
  refine own_go (U' := s₁.setTop (mkF m 4 (lc30 a1) [(.int 0)])) (fun t k => oaloadN X0 hx hby d8_0 rfl rfl (X0.instanceofNull hx (g := (mkF m 1 (lc30 a1) [.null])) rfl rfl (hb hby d8_1) _ k)) ?_
  refine own_go (U' := s₁.setTop (mkF m 56 (lc30 a1) [(.int 0)])) (fun t k => oifY (pc := 4) X0 hx hby d8_4 55 (by decide) (by decide) (oiconst X0 hx hby d8_55 k)) ?_
  obtain ⟨fs, hr, hrun, hended, hW, hsame⟩ := X0.leave (v := some (.int 0)) (fun h => by rw [Bd.returns] at h; cases h)
  refine own_out ⟨_, _, ?_, hrun, hended, _, _, rfl, ?_, ⟨_, rfl⟩, hW, hsame.mono (by decide) (by decide)⟩
  · exact retN X0 hx (t := .boolean) Bd.returns (by simp) (hb hby d8_56) hr
  · show Q8_21 Z a1 h0 n0 _ s₁.heap _
    rw [e0]
    exact ⟨rfl, N0, rfl⟩
def Q8_22 (Z : State) (a1 a2 : Addr) (p3 p4 p5 : Int32) (h0 : Heap) (n0 : Nat) (v : Option Value) (h : Heap) (L : List Loc) : Prop := v = some (.int 0) ∧ Fr n0 L ∧ h = h0
theorem rm8_22 (l : Launch) {Z : State} {a0 : Array Value} (hw : own_W Z a0) (a1 a2 : Addr) (p3 p4 p5 : Int32) (h0 : Heap) (n0 : Nat) (Z0 : n0 ≤ h0.size) (F6 : own_Str Z h0 a2 p3 p4 p5) :
    own_MF l zm9 c_8 3 (some .boolean) (own_R 0 0 0 0) #[(.ref a1), (.ref a2)] Z h0 (Q8_22 Z a1 a2 p3 p4 p5 h0 n0) := by
  refine own_st (L := (lc33 a1 a2)) (own := zs17) (plainFor_of_name pn_4) rfl (fun m => ef_10 m a1 a2) fun p e s m below meth c s₁ Bd hml hZ hh hx hby hown hnm X0 e0 => ?_
  have N0 := Fr.nil n0
  obtain ⟨T7, X7, e7, st7⟩ := instNo X0 hx hZ hown (ww hw 71 rfl) e0 (own_Str.E F6) (own_nsN (ww hw 72 rfl) (ww hw 27 rfl) (NS.step (ww hw 72 rfl) (own_nsR (ww hw 73 rfl) (ww hw 27 rfl) (by decide)) (by decide)) (by decide)) (g := (mkF m 1 (lc33 a1 a2) [(.ref a2)])) rfl rfl (hb hby d8_1)
  refine own_go (U' := T7.setTop (mkF m 4 (lc33 a1 a2) [(.int 0)])) (fun t k => oaloadN X0 hx hby d8_0 rfl rfl (st7 _ k)) ?_
  refine own_go (U' := T7.setTop (mkF m 56 (lc33 a1 a2) [(.int 0)])) (fun t k => oifY (pc := 4) X7 hx hby d8_4 55 (by decide) (by decide) (oiconst X7 hx hby d8_55 k)) ?_
  obtain ⟨fs, hr, hrun, hended, hW, hsame⟩ := X7.leave (v := some (.int 0)) (fun h => by rw [Bd.returns] at h; cases h)
  refine own_out ⟨_, _, ?_, hrun, hended, _, _, rfl, ?_, ⟨_, rfl⟩, hW, hsame.mono (by decide) (by decide)⟩
  · exact retN X7 hx (t := .boolean) Bd.returns (by simp) (hb hby d8_56) hr
  · show Q8_22 Z a1 a2 p3 p4 p5 h0 n0 _ T7.heap _
    rw [e7]
    exact ⟨rfl, N0, rfl⟩
def Q12_23 (Z : State) (p1 p2 p3 p4 p5 p6 : Int32) (h0 : Heap) (n0 : Nat) (v : Option Value) (h : Heap) (L : List Loc) : Prop := v = some (.int (own_seq p1 p2 p3 p4 p5 p6)) ∧ Fr n0 L ∧ h = h0
theorem rm12_23 (l : Launch) {Z : State} {a0 : Array Value} (hw : own_W Z a0) (p1 p2 p3 p4 p5 p6 : Int32) (h0 : Heap) (n0 : Nat) (Z0 : n0 ≤ h0.size) (hc7 : p1 = p4) (hc8 : p1 < (1 : Int32)) (hc9 : p1 < (2 : Int32)) :
    own_MF l zm10 c_12 6 (some .boolean) (own_R 0 0 0 0) #[(.int p1), (.int p2), (.int p3), (.int p4), (.int p5), (.int p6)] Z h0 (Q12_23 Z p1 p2 p3 p4 p5 p6 h0 n0) := by
  refine own_st (L := (lc34 p1 p2 p3 p4 p5 p6)) (own := zs8) (plainFor_of_name pn_2) rfl (fun m => ef_11 m p1 p2 p3 p4 p5 p6) fun p e s m below meth c s₁ Bd hml hZ hh hx hby hown hnm X0 e0 => ?_
  have N0 := Fr.nil n0
  refine own_go (U' := s₁.setTop (mkF m 2 (lc34 p1 p2 p3 p4 p5 p6) [(.int p4), (.int p1)])) (fun t k => oiloadN X0 hx hby d12_0 rfl (oiloadN X0 hx hby d12_1 rfl k)) ?_
  refine own_go (U' := s₁.setTop (mkF m 9 (lc34 p1 p2 p3 p4 p5 p6) [(.int 1), (.int p1)])) (fun t k => oicY (pc := 2) X0 hx hby d12_2 7 (teq hc7).1 (by decide) (oiloadN X0 hx hby d12_7 rfl (oiconst X0 hx hby d12_8 k))) ?_
  refine own_go (U' := s₁.setTop (mkF m 22 (lc34 p1 p2 p3 p4 p5 p6) [(.int 2), (.int p1)])) (fun t k => oicY (pc := 9) X0 hx hby d12_9 20 (tlt hc8).1 (by decide) (oiloadN X0 hx hby d12_20 rfl (oiconst X0 hx hby d12_21 k))) ?_
  refine own_go (U' := s₁.setTop (mkF m 34 (lc34 p1 p2 p3 p4 p5 p6) [(.int 1)])) (fun t k => oicY (pc := 22) X0 hx hby d12_22 33 (tlt hc9).1 (by decide) (oiconst X0 hx hby d12_33 k)) ?_
  obtain ⟨fs, hr, hrun, hended, hW, hsame⟩ := X0.leave (v := some (.int 1)) (fun h => by rw [Bd.returns] at h; cases h)
  refine own_out ⟨_, _, ?_, hrun, hended, _, _, rfl, ?_, ⟨_, rfl⟩, hW, hsame.mono (by decide) (by decide)⟩
  · exact retN X0 hx (t := .boolean) Bd.returns (by simp) (hb hby d12_34) hr
  · show Q12_23 Z p1 p2 p3 p4 p5 p6 h0 n0 _ s₁.heap _
    rw [e0]
    exact ⟨(congrArg (fun z => some (Value.int z)) (Eq.symm (own_seq_0 hc7 hc8))), N0, rfl⟩
def Q12_24 (Z : State) (p1 p2 p3 p4 p5 p6 : Int32) (h0 : Heap) (n0 : Nat) (v : Option Value) (h : Heap) (L : List Loc) : Prop := v = some (.int (own_seq p1 p2 p3 p4 p5 p6)) ∧ Fr n0 L ∧ h = h0
theorem rm12_24 (l : Launch) {Z : State} {a0 : Array Value} (hw : own_W Z a0) (p1 p2 p3 p4 p5 p6 : Int32) (h0 : Heap) (n0 : Nat) (Z0 : n0 ≤ h0.size) (hc7 : p1 = p4) (hc8 : ¬ (p1 < (1 : Int32))) (hc9 : p2 = p5) (hc10 : p1 < (2 : Int32)) :
    own_MF l zm10 c_12 6 (some .boolean) (own_R 0 0 0 0) #[(.int p1), (.int p2), (.int p3), (.int p4), (.int p5), (.int p6)] Z h0 (Q12_24 Z p1 p2 p3 p4 p5 p6 h0 n0) := by
  refine own_st (L := (lc34 p1 p2 p3 p4 p5 p6)) (own := zs8) (plainFor_of_name pn_2) rfl (fun m => ef_11 m p1 p2 p3 p4 p5 p6) fun p e s m below meth c s₁ Bd hml hZ hh hx hby hown hnm X0 e0 => ?_
  have N0 := Fr.nil n0
  refine own_go (U' := s₁.setTop (mkF m 2 (lc34 p1 p2 p3 p4 p5 p6) [(.int p4), (.int p1)])) (fun t k => oiloadN X0 hx hby d12_0 rfl (oiloadN X0 hx hby d12_1 rfl k)) ?_
  refine own_go (U' := s₁.setTop (mkF m 9 (lc34 p1 p2 p3 p4 p5 p6) [(.int 1), (.int p1)])) (fun t k => oicY (pc := 2) X0 hx hby d12_2 7 (teq hc7).1 (by decide) (oiloadN X0 hx hby d12_7 rfl (oiconst X0 hx hby d12_8 k))) ?_
  refine own_go (U' := s₁.setTop (mkF m 15 (lc34 p1 p2 p3 p4 p5 p6) [(.int p5), (.int p2)])) (fun t k => oicN X0 hx hby d12_9 (flt hc8).1 (oiloadN X0 hx hby d12_12 rfl (oiload X0 hx hby d12_13 rfl k))) ?_
  refine own_go (U' := s₁.setTop (mkF m 22 (lc34 p1 p2 p3 p4 p5 p6) [(.int 2), (.int p1)])) (fun t k => oicY (pc := 15) X0 hx hby d12_15 20 (teq hc9).1 (by decide) (oiloadN X0 hx hby d12_20 rfl (oiconst X0 hx hby d12_21 k))) ?_
  refine own_go (U' := s₁.setTop (mkF m 34 (lc34 p1 p2 p3 p4 p5 p6) [(.int 1)])) (fun t k => oicY (pc := 22) X0 hx hby d12_22 33 (tlt hc10).1 (by decide) (oiconst X0 hx hby d12_33 k)) ?_
  obtain ⟨fs, hr, hrun, hended, hW, hsame⟩ := X0.leave (v := some (.int 1)) (fun h => by rw [Bd.returns] at h; cases h)
  refine own_out ⟨_, _, ?_, hrun, hended, _, _, rfl, ?_, ⟨_, rfl⟩, hW, hsame.mono (by decide) (by decide)⟩
  · exact retN X0 hx (t := .boolean) Bd.returns (by simp) (hb hby d12_34) hr
  · show Q12_24 Z p1 p2 p3 p4 p5 p6 h0 n0 _ s₁.heap _
    rw [e0]
    exact ⟨(congrArg (fun z => some (Value.int z)) (Eq.symm (own_seq_1 hc7 hc8 hc9 hc10))), N0, rfl⟩
def Q12_25 (Z : State) (p1 p2 p3 p4 p5 p6 : Int32) (h0 : Heap) (n0 : Nat) (v : Option Value) (h : Heap) (L : List Loc) : Prop := v = some (.int (own_seq p1 p2 p3 p4 p5 p6)) ∧ Fr n0 L ∧ h = h0
theorem rm12_25 (l : Launch) {Z : State} {a0 : Array Value} (hw : own_W Z a0) (p1 p2 p3 p4 p5 p6 : Int32) (h0 : Heap) (n0 : Nat) (Z0 : n0 ≤ h0.size) (hc7 : p1 = p4) (hc8 : ¬ (p1 < (1 : Int32))) (hc9 : p2 = p5) (hc10 : ¬ (p1 < (2 : Int32))) (hc11 : p3 = p6) :
    own_MF l zm10 c_12 6 (some .boolean) (own_R 0 0 0 0) #[(.int p1), (.int p2), (.int p3), (.int p4), (.int p5), (.int p6)] Z h0 (Q12_25 Z p1 p2 p3 p4 p5 p6 h0 n0) := by
  refine own_st (L := (lc34 p1 p2 p3 p4 p5 p6)) (own := zs8) (plainFor_of_name pn_2) rfl (fun m => ef_11 m p1 p2 p3 p4 p5 p6) fun p e s m below meth c s₁ Bd hml hZ hh hx hby hown hnm X0 e0 => ?_
  have N0 := Fr.nil n0
  refine own_go (U' := s₁.setTop (mkF m 2 (lc34 p1 p2 p3 p4 p5 p6) [(.int p4), (.int p1)])) (fun t k => oiloadN X0 hx hby d12_0 rfl (oiloadN X0 hx hby d12_1 rfl k)) ?_
  refine own_go (U' := s₁.setTop (mkF m 9 (lc34 p1 p2 p3 p4 p5 p6) [(.int 1), (.int p1)])) (fun t k => oicY (pc := 2) X0 hx hby d12_2 7 (teq hc7).1 (by decide) (oiloadN X0 hx hby d12_7 rfl (oiconst X0 hx hby d12_8 k))) ?_
  refine own_go (U' := s₁.setTop (mkF m 15 (lc34 p1 p2 p3 p4 p5 p6) [(.int p5), (.int p2)])) (fun t k => oicN X0 hx hby d12_9 (flt hc8).1 (oiloadN X0 hx hby d12_12 rfl (oiload X0 hx hby d12_13 rfl k))) ?_
  refine own_go (U' := s₁.setTop (mkF m 22 (lc34 p1 p2 p3 p4 p5 p6) [(.int 2), (.int p1)])) (fun t k => oicY (pc := 15) X0 hx hby d12_15 20 (teq hc9).1 (by decide) (oiloadN X0 hx hby d12_20 rfl (oiconst X0 hx hby d12_21 k))) ?_
  refine own_go (U' := s₁.setTop (mkF m 28 (lc34 p1 p2 p3 p4 p5 p6) [(.int p6), (.int p3)])) (fun t k => oicN X0 hx hby d12_22 (flt hc10).1 (oiloadN X0 hx hby d12_25 rfl (oiload X0 hx hby d12_26 rfl k))) ?_
  refine own_go (U' := s₁.setTop (mkF m 34 (lc34 p1 p2 p3 p4 p5 p6) [(.int 1)])) (fun t k => oicY (pc := 28) X0 hx hby d12_28 33 (teq hc11).1 (by decide) (oiconst X0 hx hby d12_33 k)) ?_
  obtain ⟨fs, hr, hrun, hended, hW, hsame⟩ := X0.leave (v := some (.int 1)) (fun h => by rw [Bd.returns] at h; cases h)
  refine own_out ⟨_, _, ?_, hrun, hended, _, _, rfl, ?_, ⟨_, rfl⟩, hW, hsame.mono (by decide) (by decide)⟩
  · exact retN X0 hx (t := .boolean) Bd.returns (by simp) (hb hby d12_34) hr
  · show Q12_25 Z p1 p2 p3 p4 p5 p6 h0 n0 _ s₁.heap _
    rw [e0]
    exact ⟨(congrArg (fun z => some (Value.int z)) (Eq.symm (own_seq_2 hc7 hc8 hc9 hc10 hc11))), N0, rfl⟩
def Q12_26 (Z : State) (p1 p2 p3 p4 p5 p6 : Int32) (h0 : Heap) (n0 : Nat) (v : Option Value) (h : Heap) (L : List Loc) : Prop := v = some (.int (own_seq p1 p2 p3 p4 p5 p6)) ∧ Fr n0 L ∧ h = h0
theorem rm12_26 (l : Launch) {Z : State} {a0 : Array Value} (hw : own_W Z a0) (p1 p2 p3 p4 p5 p6 : Int32) (h0 : Heap) (n0 : Nat) (Z0 : n0 ≤ h0.size) (hc7 : p1 = p4) (hc8 : ¬ (p1 < (1 : Int32))) (hc9 : p2 = p5) (hc10 : ¬ (p1 < (2 : Int32))) (hc11 : ¬ (p3 = p6)) :
    own_MF l zm10 c_12 6 (some .boolean) (own_R 0 0 0 0) #[(.int p1), (.int p2), (.int p3), (.int p4), (.int p5), (.int p6)] Z h0 (Q12_26 Z p1 p2 p3 p4 p5 p6 h0 n0) := by
  refine own_st (L := (lc34 p1 p2 p3 p4 p5 p6)) (own := zs8) (plainFor_of_name pn_2) rfl (fun m => ef_11 m p1 p2 p3 p4 p5 p6) fun p e s m below meth c s₁ Bd hml hZ hh hx hby hown hnm X0 e0 => ?_
  have N0 := Fr.nil n0
  refine own_go (U' := s₁.setTop (mkF m 2 (lc34 p1 p2 p3 p4 p5 p6) [(.int p4), (.int p1)])) (fun t k => oiloadN X0 hx hby d12_0 rfl (oiloadN X0 hx hby d12_1 rfl k)) ?_
  refine own_go (U' := s₁.setTop (mkF m 9 (lc34 p1 p2 p3 p4 p5 p6) [(.int 1), (.int p1)])) (fun t k => oicY (pc := 2) X0 hx hby d12_2 7 (teq hc7).1 (by decide) (oiloadN X0 hx hby d12_7 rfl (oiconst X0 hx hby d12_8 k))) ?_
  refine own_go (U' := s₁.setTop (mkF m 15 (lc34 p1 p2 p3 p4 p5 p6) [(.int p5), (.int p2)])) (fun t k => oicN X0 hx hby d12_9 (flt hc8).1 (oiloadN X0 hx hby d12_12 rfl (oiload X0 hx hby d12_13 rfl k))) ?_
  refine own_go (U' := s₁.setTop (mkF m 22 (lc34 p1 p2 p3 p4 p5 p6) [(.int 2), (.int p1)])) (fun t k => oicY (pc := 15) X0 hx hby d12_15 20 (teq hc9).1 (by decide) (oiloadN X0 hx hby d12_20 rfl (oiconst X0 hx hby d12_21 k))) ?_
  refine own_go (U' := s₁.setTop (mkF m 28 (lc34 p1 p2 p3 p4 p5 p6) [(.int p6), (.int p3)])) (fun t k => oicN X0 hx hby d12_22 (flt hc10).1 (oiloadN X0 hx hby d12_25 rfl (oiload X0 hx hby d12_26 rfl k))) ?_
  refine own_go (U' := s₁.setTop (mkF m 32 (lc34 p1 p2 p3 p4 p5 p6) [(.int 0)])) (fun t k => oicN X0 hx hby d12_28 (feq hc11).1 (oiconst X0 hx hby d12_31 k)) ?_
  obtain ⟨fs, hr, hrun, hended, hW, hsame⟩ := X0.leave (v := some (.int 0)) (fun h => by rw [Bd.returns] at h; cases h)
  refine own_out ⟨_, _, ?_, hrun, hended, _, _, rfl, ?_, ⟨_, rfl⟩, hW, hsame.mono (by decide) (by decide)⟩
  · exact retN X0 hx (t := .boolean) Bd.returns (by simp) (hb hby d12_32) hr
  · show Q12_26 Z p1 p2 p3 p4 p5 p6 h0 n0 _ s₁.heap _
    rw [e0]
    exact ⟨(congrArg (fun z => some (Value.int z)) (Eq.symm (own_seq_b hc7 hc8 hc9 hc10 hc11))), N0, rfl⟩
def Q12_27 (Z : State) (p1 p2 p3 p4 p5 p6 : Int32) (h0 : Heap) (n0 : Nat) (v : Option Value) (h : Heap) (L : List Loc) : Prop := v = some (.int (own_seq p1 p2 p3 p4 p5 p6)) ∧ Fr n0 L ∧ h = h0
theorem rm12_27 (l : Launch) {Z : State} {a0 : Array Value} (hw : own_W Z a0) (p1 p2 p3 p4 p5 p6 : Int32) (h0 : Heap) (n0 : Nat) (Z0 : n0 ≤ h0.size) (hc7 : p1 = p4) (hc8 : ¬ (p1 < (1 : Int32))) (hc9 : ¬ (p2 = p5)) :
    own_MF l zm10 c_12 6 (some .boolean) (own_R 0 0 0 0) #[(.int p1), (.int p2), (.int p3), (.int p4), (.int p5), (.int p6)] Z h0 (Q12_27 Z p1 p2 p3 p4 p5 p6 h0 n0) := by
  refine own_st (L := (lc34 p1 p2 p3 p4 p5 p6)) (own := zs8) (plainFor_of_name pn_2) rfl (fun m => ef_11 m p1 p2 p3 p4 p5 p6) fun p e s m below meth c s₁ Bd hml hZ hh hx hby hown hnm X0 e0 => ?_
  have N0 := Fr.nil n0
  refine own_go (U' := s₁.setTop (mkF m 2 (lc34 p1 p2 p3 p4 p5 p6) [(.int p4), (.int p1)])) (fun t k => oiloadN X0 hx hby d12_0 rfl (oiloadN X0 hx hby d12_1 rfl k)) ?_
  refine own_go (U' := s₁.setTop (mkF m 9 (lc34 p1 p2 p3 p4 p5 p6) [(.int 1), (.int p1)])) (fun t k => oicY (pc := 2) X0 hx hby d12_2 7 (teq hc7).1 (by decide) (oiloadN X0 hx hby d12_7 rfl (oiconst X0 hx hby d12_8 k))) ?_
  refine own_go (U' := s₁.setTop (mkF m 15 (lc34 p1 p2 p3 p4 p5 p6) [(.int p5), (.int p2)])) (fun t k => oicN X0 hx hby d12_9 (flt hc8).1 (oiloadN X0 hx hby d12_12 rfl (oiload X0 hx hby d12_13 rfl k))) ?_
  refine own_go (U' := s₁.setTop (mkF m 19 (lc34 p1 p2 p3 p4 p5 p6) [(.int 0)])) (fun t k => oicN X0 hx hby d12_15 (feq hc9).1 (oiconst X0 hx hby d12_18 k)) ?_
  obtain ⟨fs, hr, hrun, hended, hW, hsame⟩ := X0.leave (v := some (.int 0)) (fun h => by rw [Bd.returns] at h; cases h)
  refine own_out ⟨_, _, ?_, hrun, hended, _, _, rfl, ?_, ⟨_, rfl⟩, hW, hsame.mono (by decide) (by decide)⟩
  · exact retN X0 hx (t := .boolean) Bd.returns (by simp) (hb hby d12_19) hr
  · show Q12_27 Z p1 p2 p3 p4 p5 p6 h0 n0 _ s₁.heap _
    rw [e0]
    exact ⟨(congrArg (fun z => some (Value.int z)) (Eq.symm (own_seq_a hc7 hc8 hc9))), N0, rfl⟩
def Q12_28 (Z : State) (p1 p2 p3 p4 p5 p6 : Int32) (h0 : Heap) (n0 : Nat) (v : Option Value) (h : Heap) (L : List Loc) : Prop := v = some (.int (own_seq p1 p2 p3 p4 p5 p6)) ∧ Fr n0 L ∧ h = h0
theorem rm12_28 (l : Launch) {Z : State} {a0 : Array Value} (hw : own_W Z a0) (p1 p2 p3 p4 p5 p6 : Int32) (h0 : Heap) (n0 : Nat) (Z0 : n0 ≤ h0.size) (hc7 : ¬ (p1 = p4)) :
    own_MF l zm10 c_12 6 (some .boolean) (own_R 0 0 0 0) #[(.int p1), (.int p2), (.int p3), (.int p4), (.int p5), (.int p6)] Z h0 (Q12_28 Z p1 p2 p3 p4 p5 p6 h0 n0) := by
  refine own_st (L := (lc34 p1 p2 p3 p4 p5 p6)) (own := zs8) (plainFor_of_name pn_2) rfl (fun m => ef_11 m p1 p2 p3 p4 p5 p6) fun p e s m below meth c s₁ Bd hml hZ hh hx hby hown hnm X0 e0 => ?_
  have N0 := Fr.nil n0
  refine own_go (U' := s₁.setTop (mkF m 2 (lc34 p1 p2 p3 p4 p5 p6) [(.int p4), (.int p1)])) (fun t k => oiloadN X0 hx hby d12_0 rfl (oiloadN X0 hx hby d12_1 rfl k)) ?_
  refine own_go (U' := s₁.setTop (mkF m 6 (lc34 p1 p2 p3 p4 p5 p6) [(.int 0)])) (fun t k => oicN X0 hx hby d12_2 (feq hc7).1 (oiconst X0 hx hby d12_5 k)) ?_
  obtain ⟨fs, hr, hrun, hended, hW, hsame⟩ := X0.leave (v := some (.int 0)) (fun h => by rw [Bd.returns] at h; cases h)
  refine own_out ⟨_, _, ?_, hrun, hended, _, _, rfl, ?_, ⟨_, rfl⟩, hW, hsame.mono (by decide) (by decide)⟩
  · exact retN X0 hx (t := .boolean) Bd.returns (by simp) (hb hby d12_6) hr
  · show Q12_28 Z p1 p2 p3 p4 p5 p6 h0 n0 _ s₁.heap _
    rw [e0]
    exact ⟨(congrArg (fun z => some (Value.int z)) (Eq.symm (own_seq_n hc7))), N0, rfl⟩
def Qmg12_29 (Z : State) (p1 p2 p3 p4 p5 p6 : Int32) (h0 : Heap) (n0 : Nat) (v : Option Value) (h : Heap) (L : List Loc) : Prop := v = some (.int (own_seq p1 p2 p3 p4 p5 p6)) ∧ Fr n0 L ∧ h = h0
theorem mg12_29 (l : Launch) {Z : State} {a0 : Array Value} (hw : own_W Z a0) (p1 p2 p3 p4 p5 p6 : Int32) (h0 : Heap) (n0 : Nat) (Z0 : n0 ≤ h0.size) :
    own_MF l zm10 c_12 6 (some .boolean) (own_R 0 0 0 0) #[(.int p1), (.int p2), (.int p3), (.int p4), (.int p5), (.int p6)] Z h0 (Qmg12_29 Z p1 p2 p3 p4 p5 p6 h0 n0) := by
  by_cases hm1 : p1 = p4
  · by_cases hm2 : p1 < (1 : Int32)
    · exact rm12_23 l hw p1 p2 p3 p4 p5 p6 h0 n0 Z0 hm1 hm2 (Int32.lt_iff_toInt_lt.mpr (by have := Int32.lt_iff_toInt_lt.mp hm2; have := rng32 p1; have := (by decide : ((2 : Int32)).toInt = 2); have := (by decide : ((1 : Int32)).toInt = 1); omega))
    · by_cases hm3 : p2 = p5
      · by_cases hm4 : p1 < (2 : Int32)
        · exact rm12_24 l hw p1 p2 p3 p4 p5 p6 h0 n0 Z0 hm1 hm2 hm3 hm4
        · by_cases hm5 : p3 = p6
          · exact rm12_25 l hw p1 p2 p3 p4 p5 p6 h0 n0 Z0 hm1 hm2 hm3 hm4 hm5
          · exact rm12_26 l hw p1 p2 p3 p4 p5 p6 h0 n0 Z0 hm1 hm2 hm3 hm4 hm5
      · exact rm12_27 l hw p1 p2 p3 p4 p5 p6 h0 n0 Z0 hm1 hm2 hm3
  · exact rm12_28 l hw p1 p2 p3 p4 p5 p6 h0 n0 Z0 hm1
def Q14_30 (Z : State) (a1 a2 : Addr) (kc3 : ClassId) (kc6 : ClassId) (h0 : Heap) (n0 : Nat) (v : Option Value) (h : Heap) (L : List Loc) : Prop := v = some (.int 1) ∧ Fr n0 L ∧ h = h0
theorem rm14_30 (l : Launch) {Z : State} {a0 : Array Value} (hw : own_W Z a0) (a1 a2 : Addr) (kc3 : ClassId) (kc6 : ClassId) (h0 : Heap) (n0 : Nat) (Z0 : n0 ≤ h0.size) (F4 : Arv Z h0 a1 kc3 .byte (0 : Int32) [] (.int (0 : Int32))) (F7 : Arv Z h0 a2 kc6 .byte (0 : Int32) [] (.int (0 : Int32))) :
    own_MF l zm11 c_14 3 (some .boolean) (own_R 0 0 0 0) #[(.ref a1), (.ref a2)] Z h0 (Q14_30 Z a1 a2 kc3 kc6 h0 n0) := by
  refine own_st (L := (lc33 a1 a2)) (own := zs22) (plainFor_of_name pn_5) rfl (fun m => ef_10 m a1 a2) fun p e s m below meth c s₁ Bd hml hZ hh hx hby hown hnm X0 e0 => ?_
  have N0 := Fr.nil n0
  refine own_go (U' := s₁.setTop (mkF m 1 (lc33 a1 a2) [(.ref a1)])) (fun t k => oaloadN X0 hx hby d14_0 rfl rfl k) ?_
  obtain ⟨cl5, Ar5, q5, S5, N5, H5, G5⟩ := id F4
  refine own_go (fun t k => X0.arraylength hx (own_at e0 Ar5.1) (State.isArrayOf_alike hZ.alike Ar5.2.1) (g := (mkF m 1 (lc33 a1 a2) [(.ref a1)])) rfl rfl (hb hby d14_1) _ k) ?_
  rw [len_of S5 N5]
  refine own_go (U' := s₁.setTop (mkF m 3 (lc33 a1 a2) [(.ref a2), (.int 0)])) (fun t k => oaloadN X0 hx hby d14_2 rfl rfl k) ?_
  obtain ⟨cl8, Ar8, q8, S8, N8, H8, G8⟩ := id F7
  refine own_go (fun t k => X0.arraylength hx (own_at e0 Ar8.1) (State.isArrayOf_alike hZ.alike Ar8.2.1) (g := (mkF m 3 (lc33 a1 a2) [(.ref a2), (.int 0)])) rfl rfl (hb hby d14_3) _ k) ?_
  rw [len_of S8 N8]
  refine own_go (U' := s₁.setTop (mkF m 11 (lc37 a1 a2 0) [(.ref a1), (.int 0)])) (fun t k => oicN X0 hx hby d14_4 (by decide) (oiconst X0 hx hby d14_7 (oistoreN X0 hx hby d14_8 (lc37 a1 a2 0) rfl (oiloadN X0 hx hby d14_9 rfl (oaloadN X0 hx hby d14_10 rfl rfl k))))) ?_
  obtain ⟨cl9, Ar9, q9, S9, N9, H9, G9⟩ := id F4
  refine own_go (fun t k => X0.arraylength hx (own_at e0 Ar9.1) (State.isArrayOf_alike hZ.alike Ar9.2.1) (g := (mkF m 11 (lc37 a1 a2 0) [(.ref a1), (.int 0)])) rfl rfl (hb hby d14_11) _ k) ?_
  rw [len_of S9 N9]
  refine own_go (U' := s₁.setTop (mkF m 33 (lc37 a1 a2 0) [(.int 1)])) (fun t k => oicY (pc := 12) X0 hx hby d14_12 32 (by decide) (by decide) (oiconst X0 hx hby d14_32 k)) ?_
  obtain ⟨fs, hr, hrun, hended, hW, hsame⟩ := X0.leave (v := some (.int 1)) (fun h => by rw [Bd.returns] at h; cases h)
  refine own_out ⟨_, _, ?_, hrun, hended, _, _, rfl, ?_, ⟨_, rfl⟩, hW, hsame.mono (by decide) (by decide)⟩
  · exact retN X0 hx (t := .boolean) Bd.returns (by simp) (hb hby d14_33) hr
  · show Q14_30 Z a1 a2 kc3 kc6 h0 n0 _ s₁.heap _
    rw [e0]
    exact ⟨rfl, N0, rfl⟩
def Q14_31 (Z : State) (a1 a2 : Addr) (kc3 : ClassId) (p6 : Int32) (kc7 : ClassId) (h0 : Heap) (n0 : Nat) (v : Option Value) (h : Heap) (L : List Loc) : Prop := v = some (.int 0) ∧ Fr n0 L ∧ h = h0
theorem rm14_31 (l : Launch) {Z : State} {a0 : Array Value} (hw : own_W Z a0) (a1 a2 : Addr) (kc3 : ClassId) (p6 : Int32) (kc7 : ClassId) (h0 : Heap) (n0 : Nat) (Z0 : n0 ≤ h0.size) (F4 : Arv Z h0 a1 kc3 .byte (0 : Int32) [] (.int (0 : Int32))) (F8 : Arv Z h0 a2 kc7 .byte (1 : Int32) [(.int p6)] (.int (0 : Int32))) :
    own_MF l zm11 c_14 3 (some .boolean) (own_R 0 0 0 0) #[(.ref a1), (.ref a2)] Z h0 (Q14_31 Z a1 a2 kc3 p6 kc7 h0 n0) := by
  refine own_st (L := (lc33 a1 a2)) (own := zs22) (plainFor_of_name pn_5) rfl (fun m => ef_10 m a1 a2) fun p e s m below meth c s₁ Bd hml hZ hh hx hby hown hnm X0 e0 => ?_
  have N0 := Fr.nil n0
  refine own_go (U' := s₁.setTop (mkF m 1 (lc33 a1 a2) [(.ref a1)])) (fun t k => oaloadN X0 hx hby d14_0 rfl rfl k) ?_
  obtain ⟨cl5, Ar5, q5, S5, N5, H5, G5⟩ := id F4
  refine own_go (fun t k => X0.arraylength hx (own_at e0 Ar5.1) (State.isArrayOf_alike hZ.alike Ar5.2.1) (g := (mkF m 1 (lc33 a1 a2) [(.ref a1)])) rfl rfl (hb hby d14_1) _ k) ?_
  rw [len_of S5 N5]
  refine own_go (U' := s₁.setTop (mkF m 3 (lc33 a1 a2) [(.ref a2), (.int 0)])) (fun t k => oaloadN X0 hx hby d14_2 rfl rfl k) ?_
  obtain ⟨cl9, Ar9, q9, S9, N9, H9, G9⟩ := id F8
  refine own_go (fun t k => X0.arraylength hx (own_at e0 Ar9.1) (State.isArrayOf_alike hZ.alike Ar9.2.1) (g := (mkF m 3 (lc33 a1 a2) [(.ref a2), (.int 0)])) rfl rfl (hb hby d14_3) _ k) ?_
  rw [len_of S9 N9]
  refine own_go (U' := s₁.setTop (mkF m 35 (lc33 a1 a2) [(.int 0)])) (fun t k => oicY (pc := 4) X0 hx hby d14_4 34 (by decide) (by decide) (oiconst X0 hx hby d14_34 k)) ?_
  obtain ⟨fs, hr, hrun, hended, hW, hsame⟩ := X0.leave (v := some (.int 0)) (fun h => by rw [Bd.returns] at h; cases h)
  refine own_out ⟨_, _, ?_, hrun, hended, _, _, rfl, ?_, ⟨_, rfl⟩, hW, hsame.mono (by decide) (by decide)⟩
  · exact retN X0 hx (t := .boolean) Bd.returns (by simp) (hb hby d14_35) hr
  · show Q14_31 Z a1 a2 kc3 p6 kc7 h0 n0 _ s₁.heap _
    rw [e0]
    exact ⟨rfl, N0, rfl⟩
def Q14_32 (Z : State) (a1 a2 : Addr) (kc3 : ClassId) (p6 p7 : Int32) (kc8 : ClassId) (h0 : Heap) (n0 : Nat) (v : Option Value) (h : Heap) (L : List Loc) : Prop := v = some (.int 0) ∧ Fr n0 L ∧ h = h0
theorem rm14_32 (l : Launch) {Z : State} {a0 : Array Value} (hw : own_W Z a0) (a1 a2 : Addr) (kc3 : ClassId) (p6 p7 : Int32) (kc8 : ClassId) (h0 : Heap) (n0 : Nat) (Z0 : n0 ≤ h0.size) (F4 : Arv Z h0 a1 kc3 .byte (0 : Int32) [] (.int (0 : Int32))) (F9 : Arv Z h0 a2 kc8 .byte (2 : Int32) [(.int p6), (.int p7)] (.int (0 : Int32))) :
    own_MF l zm11 c_14 3 (some .boolean) (own_R 0 0 0 0) #[(.ref a1), (.ref a2)] Z h0 (Q14_32 Z a1 a2 kc3 p6 p7 kc8 h0 n0) := by
  refine own_st (L := (lc33 a1 a2)) (own := zs22) (plainFor_of_name pn_5) rfl (fun m => ef_10 m a1 a2) fun p e s m below meth c s₁ Bd hml hZ hh hx hby hown hnm X0 e0 => ?_
  have N0 := Fr.nil n0
  refine own_go (U' := s₁.setTop (mkF m 1 (lc33 a1 a2) [(.ref a1)])) (fun t k => oaloadN X0 hx hby d14_0 rfl rfl k) ?_
  obtain ⟨cl5, Ar5, q5, S5, N5, H5, G5⟩ := id F4
  refine own_go (fun t k => X0.arraylength hx (own_at e0 Ar5.1) (State.isArrayOf_alike hZ.alike Ar5.2.1) (g := (mkF m 1 (lc33 a1 a2) [(.ref a1)])) rfl rfl (hb hby d14_1) _ k) ?_
  rw [len_of S5 N5]
  refine own_go (U' := s₁.setTop (mkF m 3 (lc33 a1 a2) [(.ref a2), (.int 0)])) (fun t k => oaloadN X0 hx hby d14_2 rfl rfl k) ?_
  obtain ⟨cl10, Ar10, q10, S10, N10, H10, G10⟩ := id F9
  refine own_go (fun t k => X0.arraylength hx (own_at e0 Ar10.1) (State.isArrayOf_alike hZ.alike Ar10.2.1) (g := (mkF m 3 (lc33 a1 a2) [(.ref a2), (.int 0)])) rfl rfl (hb hby d14_3) _ k) ?_
  rw [len_of S10 N10]
  refine own_go (U' := s₁.setTop (mkF m 35 (lc33 a1 a2) [(.int 0)])) (fun t k => oicY (pc := 4) X0 hx hby d14_4 34 (by decide) (by decide) (oiconst X0 hx hby d14_34 k)) ?_
  obtain ⟨fs, hr, hrun, hended, hW, hsame⟩ := X0.leave (v := some (.int 0)) (fun h => by rw [Bd.returns] at h; cases h)
  refine own_out ⟨_, _, ?_, hrun, hended, _, _, rfl, ?_, ⟨_, rfl⟩, hW, hsame.mono (by decide) (by decide)⟩
  · exact retN X0 hx (t := .boolean) Bd.returns (by simp) (hb hby d14_35) hr
  · show Q14_32 Z a1 a2 kc3 p6 p7 kc8 h0 n0 _ s₁.heap _
    rw [e0]
    exact ⟨rfl, N0, rfl⟩
def Q14_33 (Z : State) (a1 a2 : Addr) (p3 : Int32) (kc4 : ClassId) (kc7 : ClassId) (h0 : Heap) (n0 : Nat) (v : Option Value) (h : Heap) (L : List Loc) : Prop := v = some (.int 0) ∧ Fr n0 L ∧ h = h0
theorem rm14_33 (l : Launch) {Z : State} {a0 : Array Value} (hw : own_W Z a0) (a1 a2 : Addr) (p3 : Int32) (kc4 : ClassId) (kc7 : ClassId) (h0 : Heap) (n0 : Nat) (Z0 : n0 ≤ h0.size) (F5 : Arv Z h0 a1 kc4 .byte (1 : Int32) [(.int p3)] (.int (0 : Int32))) (F8 : Arv Z h0 a2 kc7 .byte (0 : Int32) [] (.int (0 : Int32))) :
    own_MF l zm11 c_14 3 (some .boolean) (own_R 0 0 0 0) #[(.ref a1), (.ref a2)] Z h0 (Q14_33 Z a1 a2 p3 kc4 kc7 h0 n0) := by
  refine own_st (L := (lc33 a1 a2)) (own := zs22) (plainFor_of_name pn_5) rfl (fun m => ef_10 m a1 a2) fun p e s m below meth c s₁ Bd hml hZ hh hx hby hown hnm X0 e0 => ?_
  have N0 := Fr.nil n0
  refine own_go (U' := s₁.setTop (mkF m 1 (lc33 a1 a2) [(.ref a1)])) (fun t k => oaloadN X0 hx hby d14_0 rfl rfl k) ?_
  obtain ⟨cl6, Ar6, q6, S6, N6, H6, G6⟩ := id F5
  refine own_go (fun t k => X0.arraylength hx (own_at e0 Ar6.1) (State.isArrayOf_alike hZ.alike Ar6.2.1) (g := (mkF m 1 (lc33 a1 a2) [(.ref a1)])) rfl rfl (hb hby d14_1) _ k) ?_
  rw [len_of S6 N6]
  refine own_go (U' := s₁.setTop (mkF m 3 (lc33 a1 a2) [(.ref a2), (.int 1)])) (fun t k => oaloadN X0 hx hby d14_2 rfl rfl k) ?_
  obtain ⟨cl9, Ar9, q9, S9, N9, H9, G9⟩ := id F8
  refine own_go (fun t k => X0.arraylength hx (own_at e0 Ar9.1) (State.isArrayOf_alike hZ.alike Ar9.2.1) (g := (mkF m 3 (lc33 a1 a2) [(.ref a2), (.int 1)])) rfl rfl (hb hby d14_3) _ k) ?_
  rw [len_of S9 N9]
  refine own_go (U' := s₁.setTop (mkF m 35 (lc33 a1 a2) [(.int 0)])) (fun t k => oicY (pc := 4) X0 hx hby d14_4 34 (by decide) (by decide) (oiconst X0 hx hby d14_34 k)) ?_
  obtain ⟨fs, hr, hrun, hended, hW, hsame⟩ := X0.leave (v := some (.int 0)) (fun h => by rw [Bd.returns] at h; cases h)
  refine own_out ⟨_, _, ?_, hrun, hended, _, _, rfl, ?_, ⟨_, rfl⟩, hW, hsame.mono (by decide) (by decide)⟩
  · exact retN X0 hx (t := .boolean) Bd.returns (by simp) (hb hby d14_35) hr
  · show Q14_33 Z a1 a2 p3 kc4 kc7 h0 n0 _ s₁.heap _
    rw [e0]
    exact ⟨rfl, N0, rfl⟩
def Q14_34 (Z : State) (a1 a2 : Addr) (p3 : Int32) (kc4 : ClassId) (p7 : Int32) (kc8 : ClassId) (h0 : Heap) (n0 : Nat) (v : Option Value) (h : Heap) (L : List Loc) : Prop := v = some (.int 1) ∧ Fr n0 L ∧ h = h0
theorem rm14_34 (l : Launch) {Z : State} {a0 : Array Value} (hw : own_W Z a0) (a1 a2 : Addr) (p3 : Int32) (kc4 : ClassId) (p7 : Int32) (kc8 : ClassId) (h0 : Heap) (n0 : Nat) (Z0 : n0 ≤ h0.size) (F5 : Arv Z h0 a1 kc4 .byte (1 : Int32) [(.int p3)] (.int (0 : Int32))) (F9 : Arv Z h0 a2 kc8 .byte (1 : Int32) [(.int p7)] (.int (0 : Int32))) (hc16 : p3 = p7) :
    own_MF l zm11 c_14 3 (some .boolean) (own_R 0 0 0 0) #[(.ref a1), (.ref a2)] Z h0 (Q14_34 Z a1 a2 p3 kc4 p7 kc8 h0 n0) := by
  refine own_st (L := (lc33 a1 a2)) (own := zs22) (plainFor_of_name pn_5) rfl (fun m => ef_10 m a1 a2) fun p e s m below meth c s₁ Bd hml hZ hh hx hby hown hnm X0 e0 => ?_
  have N0 := Fr.nil n0
  refine own_go (U' := s₁.setTop (mkF m 1 (lc33 a1 a2) [(.ref a1)])) (fun t k => oaloadN X0 hx hby d14_0 rfl rfl k) ?_
  obtain ⟨cl6, Ar6, q6, S6, N6, H6, G6⟩ := id F5
  refine own_go (fun t k => X0.arraylength hx (own_at e0 Ar6.1) (State.isArrayOf_alike hZ.alike Ar6.2.1) (g := (mkF m 1 (lc33 a1 a2) [(.ref a1)])) rfl rfl (hb hby d14_1) _ k) ?_
  rw [len_of S6 N6]
  refine own_go (U' := s₁.setTop (mkF m 3 (lc33 a1 a2) [(.ref a2), (.int 1)])) (fun t k => oaloadN X0 hx hby d14_2 rfl rfl k) ?_
  obtain ⟨cl10, Ar10, q10, S10, N10, H10, G10⟩ := id F9
  refine own_go (fun t k => X0.arraylength hx (own_at e0 Ar10.1) (State.isArrayOf_alike hZ.alike Ar10.2.1) (g := (mkF m 3 (lc33 a1 a2) [(.ref a2), (.int 1)])) rfl rfl (hb hby d14_3) _ k) ?_
  rw [len_of S10 N10]
  refine own_go (U' := s₁.setTop (mkF m 11 (lc37 a1 a2 0) [(.ref a1), (.int 0)])) (fun t k => oicN X0 hx hby d14_4 (by decide) (oiconst X0 hx hby d14_7 (oistoreN X0 hx hby d14_8 (lc37 a1 a2 0) rfl (oiloadN X0 hx hby d14_9 rfl (oaloadN X0 hx hby d14_10 rfl rfl k))))) ?_
  obtain ⟨cl11, Ar11, q11, S11, N11, H11, G11⟩ := id F5
  refine own_go (fun t k => X0.arraylength hx (own_at e0 Ar11.1) (State.isArrayOf_alike hZ.alike Ar11.2.1) (g := (mkF m 11 (lc37 a1 a2 0) [(.ref a1), (.int 0)])) rfl rfl (hb hby d14_11) _ k) ?_
  rw [len_of S11 N11]
  obtain ⟨cl12, Ar12, q12, S12, N12, H12, G12⟩ := id F5
  have hin13 : ¬ ((0 : Int32) < 0 ∨ cl12.slots.size ≤ ((0 : Int32)).toNatClampNeg) := inb_of S12 ⟨by decide, by decide⟩
  have hat13 : cl12.slots[((0 : Int32)).toNatClampNeg]? = some (.int p3) := Has.at H12 hin13 rfl
  obtain ⟨cl14, Ar14, q14, S14, N14, H14, G14⟩ := id F9
  have hin15 : ¬ ((0 : Int32) < 0 ∨ cl14.slots.size ≤ ((0 : Int32)).toNatClampNeg) := inb_of S14 ⟨by decide, by decide⟩
  have hat15 : cl14.slots[((0 : Int32)).toNatClampNeg]? = some (.int p7) := Has.at H14 hin15 rfl
  refine own_go (U' := s₁.setTop (mkF m 21 (lc37 a1 a2 0) [(.int p7), (.int p3)])) (fun t k => oicN X0 hx hby d14_12 (by decide) (oaloadN X0 hx hby d14_15 rfl rfl (oiloadN X0 hx hby d14_16 rfl (X0.baloadBytes hx (j := (0 : Int32)) (v := (.int p3)) (own_at e0 Ar12.1) (State.isArrayOf_alike hZ.alike Ar12.2.1) Ar12.2.2 hin13 hat13 (g := (mkF m 17 (lc37 a1 a2 0) [(.int 0), (.ref a1)])) rfl rfl (hb hby d14_17) _ (oaloadN X0 hx hby d14_18 rfl rfl (oiloadN X0 hx hby d14_19 rfl (X0.baloadBytes hx (j := (0 : Int32)) (v := (.int p7)) (own_at e0 Ar14.1) (State.isArrayOf_alike hZ.alike Ar14.2.1) Ar14.2.2 hin15 hat15 (g := (mkF m 20 (lc37 a1 a2 0) [(.int 0), (.ref a2), (.int p3)])) rfl rfl (hb hby d14_20) _ k))))))) ?_
  refine own_go (U' := s₁.setTop (mkF m 11 (lc37 a1 a2 1) [(.ref a1), (.int 1)])) (fun t k => oicY (pc := 21) X0 hx hby d14_21 26 (teq hc16).1 (by decide) (oiinc X0 hx hby d14_26 (lc37 a1 a2 1) rfl rfl (ogoto (pc := 29) X0 hx hby d14_29 9 (by decide) (oiloadN X0 hx hby d14_9 rfl (oaloadN X0 hx hby d14_10 rfl rfl k))))) ?_
  obtain ⟨cl17, Ar17, q17, S17, N17, H17, G17⟩ := id F5
  refine own_go (fun t k => X0.arraylength hx (own_at e0 Ar17.1) (State.isArrayOf_alike hZ.alike Ar17.2.1) (g := (mkF m 11 (lc37 a1 a2 1) [(.ref a1), (.int 1)])) rfl rfl (hb hby d14_11) _ k) ?_
  rw [len_of S17 N17]
  refine own_go (U' := s₁.setTop (mkF m 33 (lc37 a1 a2 1) [(.int 1)])) (fun t k => oicY (pc := 12) X0 hx hby d14_12 32 (by decide) (by decide) (oiconst X0 hx hby d14_32 k)) ?_
  obtain ⟨fs, hr, hrun, hended, hW, hsame⟩ := X0.leave (v := some (.int 1)) (fun h => by rw [Bd.returns] at h; cases h)
  refine own_out ⟨_, _, ?_, hrun, hended, _, _, rfl, ?_, ⟨_, rfl⟩, hW, hsame.mono (by decide) (by decide)⟩
  · exact retN X0 hx (t := .boolean) Bd.returns (by simp) (hb hby d14_33) hr
  · show Q14_34 Z a1 a2 p3 kc4 p7 kc8 h0 n0 _ s₁.heap _
    rw [e0]
    exact ⟨rfl, N0, rfl⟩
def Q14_35 (Z : State) (a1 a2 : Addr) (p3 : Int32) (kc4 : ClassId) (p7 : Int32) (kc8 : ClassId) (h0 : Heap) (n0 : Nat) (v : Option Value) (h : Heap) (L : List Loc) : Prop := v = some (.int 0) ∧ Fr n0 L ∧ h = h0
theorem rm14_35 (l : Launch) {Z : State} {a0 : Array Value} (hw : own_W Z a0) (a1 a2 : Addr) (p3 : Int32) (kc4 : ClassId) (p7 : Int32) (kc8 : ClassId) (h0 : Heap) (n0 : Nat) (Z0 : n0 ≤ h0.size) (F5 : Arv Z h0 a1 kc4 .byte (1 : Int32) [(.int p3)] (.int (0 : Int32))) (F9 : Arv Z h0 a2 kc8 .byte (1 : Int32) [(.int p7)] (.int (0 : Int32))) (hc16 : ¬ (p3 = p7)) :
    own_MF l zm11 c_14 3 (some .boolean) (own_R 0 0 0 0) #[(.ref a1), (.ref a2)] Z h0 (Q14_35 Z a1 a2 p3 kc4 p7 kc8 h0 n0) := by
  refine own_st (L := (lc33 a1 a2)) (own := zs22) (plainFor_of_name pn_5) rfl (fun m => ef_10 m a1 a2) fun p e s m below meth c s₁ Bd hml hZ hh hx hby hown hnm X0 e0 => ?_
  have N0 := Fr.nil n0
  refine own_go (U' := s₁.setTop (mkF m 1 (lc33 a1 a2) [(.ref a1)])) (fun t k => oaloadN X0 hx hby d14_0 rfl rfl k) ?_
  obtain ⟨cl6, Ar6, q6, S6, N6, H6, G6⟩ := id F5
  refine own_go (fun t k => X0.arraylength hx (own_at e0 Ar6.1) (State.isArrayOf_alike hZ.alike Ar6.2.1) (g := (mkF m 1 (lc33 a1 a2) [(.ref a1)])) rfl rfl (hb hby d14_1) _ k) ?_
  rw [len_of S6 N6]
  refine own_go (U' := s₁.setTop (mkF m 3 (lc33 a1 a2) [(.ref a2), (.int 1)])) (fun t k => oaloadN X0 hx hby d14_2 rfl rfl k) ?_
  obtain ⟨cl10, Ar10, q10, S10, N10, H10, G10⟩ := id F9
  refine own_go (fun t k => X0.arraylength hx (own_at e0 Ar10.1) (State.isArrayOf_alike hZ.alike Ar10.2.1) (g := (mkF m 3 (lc33 a1 a2) [(.ref a2), (.int 1)])) rfl rfl (hb hby d14_3) _ k) ?_
  rw [len_of S10 N10]
  refine own_go (U' := s₁.setTop (mkF m 11 (lc37 a1 a2 0) [(.ref a1), (.int 0)])) (fun t k => oicN X0 hx hby d14_4 (by decide) (oiconst X0 hx hby d14_7 (oistoreN X0 hx hby d14_8 (lc37 a1 a2 0) rfl (oiloadN X0 hx hby d14_9 rfl (oaloadN X0 hx hby d14_10 rfl rfl k))))) ?_
  obtain ⟨cl11, Ar11, q11, S11, N11, H11, G11⟩ := id F5
  refine own_go (fun t k => X0.arraylength hx (own_at e0 Ar11.1) (State.isArrayOf_alike hZ.alike Ar11.2.1) (g := (mkF m 11 (lc37 a1 a2 0) [(.ref a1), (.int 0)])) rfl rfl (hb hby d14_11) _ k) ?_
  rw [len_of S11 N11]
  obtain ⟨cl12, Ar12, q12, S12, N12, H12, G12⟩ := id F5
  have hin13 : ¬ ((0 : Int32) < 0 ∨ cl12.slots.size ≤ ((0 : Int32)).toNatClampNeg) := inb_of S12 ⟨by decide, by decide⟩
  have hat13 : cl12.slots[((0 : Int32)).toNatClampNeg]? = some (.int p3) := Has.at H12 hin13 rfl
  obtain ⟨cl14, Ar14, q14, S14, N14, H14, G14⟩ := id F9
  have hin15 : ¬ ((0 : Int32) < 0 ∨ cl14.slots.size ≤ ((0 : Int32)).toNatClampNeg) := inb_of S14 ⟨by decide, by decide⟩
  have hat15 : cl14.slots[((0 : Int32)).toNatClampNeg]? = some (.int p7) := Has.at H14 hin15 rfl
  refine own_go (U' := s₁.setTop (mkF m 21 (lc37 a1 a2 0) [(.int p7), (.int p3)])) (fun t k => oicN X0 hx hby d14_12 (by decide) (oaloadN X0 hx hby d14_15 rfl rfl (oiloadN X0 hx hby d14_16 rfl (X0.baloadBytes hx (j := (0 : Int32)) (v := (.int p3)) (own_at e0 Ar12.1) (State.isArrayOf_alike hZ.alike Ar12.2.1) Ar12.2.2 hin13 hat13 (g := (mkF m 17 (lc37 a1 a2 0) [(.int 0), (.ref a1)])) rfl rfl (hb hby d14_17) _ (oaloadN X0 hx hby d14_18 rfl rfl (oiloadN X0 hx hby d14_19 rfl (X0.baloadBytes hx (j := (0 : Int32)) (v := (.int p7)) (own_at e0 Ar14.1) (State.isArrayOf_alike hZ.alike Ar14.2.1) Ar14.2.2 hin15 hat15 (g := (mkF m 20 (lc37 a1 a2 0) [(.int 0), (.ref a2), (.int p3)])) rfl rfl (hb hby d14_20) _ k))))))) ?_
  refine own_go (U' := s₁.setTop (mkF m 25 (lc37 a1 a2 0) [(.int 0)])) (fun t k => oicN X0 hx hby d14_21 (feq hc16).1 (oiconst X0 hx hby d14_24 k)) ?_
  obtain ⟨fs, hr, hrun, hended, hW, hsame⟩ := X0.leave (v := some (.int 0)) (fun h => by rw [Bd.returns] at h; cases h)
  refine own_out ⟨_, _, ?_, hrun, hended, _, _, rfl, ?_, ⟨_, rfl⟩, hW, hsame.mono (by decide) (by decide)⟩
  · exact retN X0 hx (t := .boolean) Bd.returns (by simp) (hb hby d14_25) hr
  · show Q14_35 Z a1 a2 p3 kc4 p7 kc8 h0 n0 _ s₁.heap _
    rw [e0]
    exact ⟨rfl, N0, rfl⟩
def Q14_36 (Z : State) (a1 a2 : Addr) (p3 : Int32) (kc4 : ClassId) (p7 p8 : Int32) (kc9 : ClassId) (h0 : Heap) (n0 : Nat) (v : Option Value) (h : Heap) (L : List Loc) : Prop := v = some (.int 0) ∧ Fr n0 L ∧ h = h0
theorem rm14_36 (l : Launch) {Z : State} {a0 : Array Value} (hw : own_W Z a0) (a1 a2 : Addr) (p3 : Int32) (kc4 : ClassId) (p7 p8 : Int32) (kc9 : ClassId) (h0 : Heap) (n0 : Nat) (Z0 : n0 ≤ h0.size) (F5 : Arv Z h0 a1 kc4 .byte (1 : Int32) [(.int p3)] (.int (0 : Int32))) (F10 : Arv Z h0 a2 kc9 .byte (2 : Int32) [(.int p7), (.int p8)] (.int (0 : Int32))) :
    own_MF l zm11 c_14 3 (some .boolean) (own_R 0 0 0 0) #[(.ref a1), (.ref a2)] Z h0 (Q14_36 Z a1 a2 p3 kc4 p7 p8 kc9 h0 n0) := by
  refine own_st (L := (lc33 a1 a2)) (own := zs22) (plainFor_of_name pn_5) rfl (fun m => ef_10 m a1 a2) fun p e s m below meth c s₁ Bd hml hZ hh hx hby hown hnm X0 e0 => ?_
  have N0 := Fr.nil n0
  refine own_go (U' := s₁.setTop (mkF m 1 (lc33 a1 a2) [(.ref a1)])) (fun t k => oaloadN X0 hx hby d14_0 rfl rfl k) ?_
  obtain ⟨cl6, Ar6, q6, S6, N6, H6, G6⟩ := id F5
  refine own_go (fun t k => X0.arraylength hx (own_at e0 Ar6.1) (State.isArrayOf_alike hZ.alike Ar6.2.1) (g := (mkF m 1 (lc33 a1 a2) [(.ref a1)])) rfl rfl (hb hby d14_1) _ k) ?_
  rw [len_of S6 N6]
  refine own_go (U' := s₁.setTop (mkF m 3 (lc33 a1 a2) [(.ref a2), (.int 1)])) (fun t k => oaloadN X0 hx hby d14_2 rfl rfl k) ?_
  obtain ⟨cl11, Ar11, q11, S11, N11, H11, G11⟩ := id F10
  refine own_go (fun t k => X0.arraylength hx (own_at e0 Ar11.1) (State.isArrayOf_alike hZ.alike Ar11.2.1) (g := (mkF m 3 (lc33 a1 a2) [(.ref a2), (.int 1)])) rfl rfl (hb hby d14_3) _ k) ?_
  rw [len_of S11 N11]
  refine own_go (U' := s₁.setTop (mkF m 35 (lc33 a1 a2) [(.int 0)])) (fun t k => oicY (pc := 4) X0 hx hby d14_4 34 (by decide) (by decide) (oiconst X0 hx hby d14_34 k)) ?_
  obtain ⟨fs, hr, hrun, hended, hW, hsame⟩ := X0.leave (v := some (.int 0)) (fun h => by rw [Bd.returns] at h; cases h)
  refine own_out ⟨_, _, ?_, hrun, hended, _, _, rfl, ?_, ⟨_, rfl⟩, hW, hsame.mono (by decide) (by decide)⟩
  · exact retN X0 hx (t := .boolean) Bd.returns (by simp) (hb hby d14_35) hr
  · show Q14_36 Z a1 a2 p3 kc4 p7 p8 kc9 h0 n0 _ s₁.heap _
    rw [e0]
    exact ⟨rfl, N0, rfl⟩
def Q14_37 (Z : State) (a1 a2 : Addr) (p3 p4 : Int32) (kc5 : ClassId) (kc8 : ClassId) (h0 : Heap) (n0 : Nat) (v : Option Value) (h : Heap) (L : List Loc) : Prop := v = some (.int 0) ∧ Fr n0 L ∧ h = h0
theorem rm14_37 (l : Launch) {Z : State} {a0 : Array Value} (hw : own_W Z a0) (a1 a2 : Addr) (p3 p4 : Int32) (kc5 : ClassId) (kc8 : ClassId) (h0 : Heap) (n0 : Nat) (Z0 : n0 ≤ h0.size) (F6 : Arv Z h0 a1 kc5 .byte (2 : Int32) [(.int p3), (.int p4)] (.int (0 : Int32))) (F9 : Arv Z h0 a2 kc8 .byte (0 : Int32) [] (.int (0 : Int32))) :
    own_MF l zm11 c_14 3 (some .boolean) (own_R 0 0 0 0) #[(.ref a1), (.ref a2)] Z h0 (Q14_37 Z a1 a2 p3 p4 kc5 kc8 h0 n0) := by
  refine own_st (L := (lc33 a1 a2)) (own := zs22) (plainFor_of_name pn_5) rfl (fun m => ef_10 m a1 a2) fun p e s m below meth c s₁ Bd hml hZ hh hx hby hown hnm X0 e0 => ?_
  have N0 := Fr.nil n0
  refine own_go (U' := s₁.setTop (mkF m 1 (lc33 a1 a2) [(.ref a1)])) (fun t k => oaloadN X0 hx hby d14_0 rfl rfl k) ?_
  obtain ⟨cl7, Ar7, q7, S7, N7, H7, G7⟩ := id F6
  refine own_go (fun t k => X0.arraylength hx (own_at e0 Ar7.1) (State.isArrayOf_alike hZ.alike Ar7.2.1) (g := (mkF m 1 (lc33 a1 a2) [(.ref a1)])) rfl rfl (hb hby d14_1) _ k) ?_
  rw [len_of S7 N7]
  refine own_go (U' := s₁.setTop (mkF m 3 (lc33 a1 a2) [(.ref a2), (.int 2)])) (fun t k => oaloadN X0 hx hby d14_2 rfl rfl k) ?_
  obtain ⟨cl10, Ar10, q10, S10, N10, H10, G10⟩ := id F9
  refine own_go (fun t k => X0.arraylength hx (own_at e0 Ar10.1) (State.isArrayOf_alike hZ.alike Ar10.2.1) (g := (mkF m 3 (lc33 a1 a2) [(.ref a2), (.int 2)])) rfl rfl (hb hby d14_3) _ k) ?_
  rw [len_of S10 N10]
  refine own_go (U' := s₁.setTop (mkF m 35 (lc33 a1 a2) [(.int 0)])) (fun t k => oicY (pc := 4) X0 hx hby d14_4 34 (by decide) (by decide) (oiconst X0 hx hby d14_34 k)) ?_
  obtain ⟨fs, hr, hrun, hended, hW, hsame⟩ := X0.leave (v := some (.int 0)) (fun h => by rw [Bd.returns] at h; cases h)
  refine own_out ⟨_, _, ?_, hrun, hended, _, _, rfl, ?_, ⟨_, rfl⟩, hW, hsame.mono (by decide) (by decide)⟩
  · exact retN X0 hx (t := .boolean) Bd.returns (by simp) (hb hby d14_35) hr
  · show Q14_37 Z a1 a2 p3 p4 kc5 kc8 h0 n0 _ s₁.heap _
    rw [e0]
    exact ⟨rfl, N0, rfl⟩
def Q14_38 (Z : State) (a1 a2 : Addr) (p3 p4 : Int32) (kc5 : ClassId) (p8 : Int32) (kc9 : ClassId) (h0 : Heap) (n0 : Nat) (v : Option Value) (h : Heap) (L : List Loc) : Prop := v = some (.int 0) ∧ Fr n0 L ∧ h = h0
theorem rm14_38 (l : Launch) {Z : State} {a0 : Array Value} (hw : own_W Z a0) (a1 a2 : Addr) (p3 p4 : Int32) (kc5 : ClassId) (p8 : Int32) (kc9 : ClassId) (h0 : Heap) (n0 : Nat) (Z0 : n0 ≤ h0.size) (F6 : Arv Z h0 a1 kc5 .byte (2 : Int32) [(.int p3), (.int p4)] (.int (0 : Int32))) (F10 : Arv Z h0 a2 kc9 .byte (1 : Int32) [(.int p8)] (.int (0 : Int32))) :
    own_MF l zm11 c_14 3 (some .boolean) (own_R 0 0 0 0) #[(.ref a1), (.ref a2)] Z h0 (Q14_38 Z a1 a2 p3 p4 kc5 p8 kc9 h0 n0) := by
  refine own_st (L := (lc33 a1 a2)) (own := zs22) (plainFor_of_name pn_5) rfl (fun m => ef_10 m a1 a2) fun p e s m below meth c s₁ Bd hml hZ hh hx hby hown hnm X0 e0 => ?_
  have N0 := Fr.nil n0
  refine own_go (U' := s₁.setTop (mkF m 1 (lc33 a1 a2) [(.ref a1)])) (fun t k => oaloadN X0 hx hby d14_0 rfl rfl k) ?_
  obtain ⟨cl7, Ar7, q7, S7, N7, H7, G7⟩ := id F6
  refine own_go (fun t k => X0.arraylength hx (own_at e0 Ar7.1) (State.isArrayOf_alike hZ.alike Ar7.2.1) (g := (mkF m 1 (lc33 a1 a2) [(.ref a1)])) rfl rfl (hb hby d14_1) _ k) ?_
  rw [len_of S7 N7]
  refine own_go (U' := s₁.setTop (mkF m 3 (lc33 a1 a2) [(.ref a2), (.int 2)])) (fun t k => oaloadN X0 hx hby d14_2 rfl rfl k) ?_
  obtain ⟨cl11, Ar11, q11, S11, N11, H11, G11⟩ := id F10
  refine own_go (fun t k => X0.arraylength hx (own_at e0 Ar11.1) (State.isArrayOf_alike hZ.alike Ar11.2.1) (g := (mkF m 3 (lc33 a1 a2) [(.ref a2), (.int 2)])) rfl rfl (hb hby d14_3) _ k) ?_
  rw [len_of S11 N11]
  refine own_go (U' := s₁.setTop (mkF m 35 (lc33 a1 a2) [(.int 0)])) (fun t k => oicY (pc := 4) X0 hx hby d14_4 34 (by decide) (by decide) (oiconst X0 hx hby d14_34 k)) ?_
  obtain ⟨fs, hr, hrun, hended, hW, hsame⟩ := X0.leave (v := some (.int 0)) (fun h => by rw [Bd.returns] at h; cases h)
  refine own_out ⟨_, _, ?_, hrun, hended, _, _, rfl, ?_, ⟨_, rfl⟩, hW, hsame.mono (by decide) (by decide)⟩
  · exact retN X0 hx (t := .boolean) Bd.returns (by simp) (hb hby d14_35) hr
  · show Q14_38 Z a1 a2 p3 p4 kc5 p8 kc9 h0 n0 _ s₁.heap _
    rw [e0]
    exact ⟨rfl, N0, rfl⟩
def Q14_39 (Z : State) (a1 a2 : Addr) (p3 p4 : Int32) (kc5 : ClassId) (p8 p9 : Int32) (kc10 : ClassId) (h0 : Heap) (n0 : Nat) (v : Option Value) (h : Heap) (L : List Loc) : Prop := v = some (.int 1) ∧ Fr n0 L ∧ h = h0
theorem rm14_39 (l : Launch) {Z : State} {a0 : Array Value} (hw : own_W Z a0) (a1 a2 : Addr) (p3 p4 : Int32) (kc5 : ClassId) (p8 p9 : Int32) (kc10 : ClassId) (h0 : Heap) (n0 : Nat) (Z0 : n0 ≤ h0.size) (F6 : Arv Z h0 a1 kc5 .byte (2 : Int32) [(.int p3), (.int p4)] (.int (0 : Int32))) (F11 : Arv Z h0 a2 kc10 .byte (2 : Int32) [(.int p8), (.int p9)] (.int (0 : Int32))) (hc18 : p3 = p8) (hc24 : p4 = p9) :
    own_MF l zm11 c_14 3 (some .boolean) (own_R 0 0 0 0) #[(.ref a1), (.ref a2)] Z h0 (Q14_39 Z a1 a2 p3 p4 kc5 p8 p9 kc10 h0 n0) := by
  refine own_st (L := (lc33 a1 a2)) (own := zs22) (plainFor_of_name pn_5) rfl (fun m => ef_10 m a1 a2) fun p e s m below meth c s₁ Bd hml hZ hh hx hby hown hnm X0 e0 => ?_
  have N0 := Fr.nil n0
  refine own_go (U' := s₁.setTop (mkF m 1 (lc33 a1 a2) [(.ref a1)])) (fun t k => oaloadN X0 hx hby d14_0 rfl rfl k) ?_
  obtain ⟨cl7, Ar7, q7, S7, N7, H7, G7⟩ := id F6
  refine own_go (fun t k => X0.arraylength hx (own_at e0 Ar7.1) (State.isArrayOf_alike hZ.alike Ar7.2.1) (g := (mkF m 1 (lc33 a1 a2) [(.ref a1)])) rfl rfl (hb hby d14_1) _ k) ?_
  rw [len_of S7 N7]
  refine own_go (U' := s₁.setTop (mkF m 3 (lc33 a1 a2) [(.ref a2), (.int 2)])) (fun t k => oaloadN X0 hx hby d14_2 rfl rfl k) ?_
  obtain ⟨cl12, Ar12, q12, S12, N12, H12, G12⟩ := id F11
  refine own_go (fun t k => X0.arraylength hx (own_at e0 Ar12.1) (State.isArrayOf_alike hZ.alike Ar12.2.1) (g := (mkF m 3 (lc33 a1 a2) [(.ref a2), (.int 2)])) rfl rfl (hb hby d14_3) _ k) ?_
  rw [len_of S12 N12]
  refine own_go (U' := s₁.setTop (mkF m 11 (lc37 a1 a2 0) [(.ref a1), (.int 0)])) (fun t k => oicN X0 hx hby d14_4 (by decide) (oiconst X0 hx hby d14_7 (oistoreN X0 hx hby d14_8 (lc37 a1 a2 0) rfl (oiloadN X0 hx hby d14_9 rfl (oaloadN X0 hx hby d14_10 rfl rfl k))))) ?_
  obtain ⟨cl13, Ar13, q13, S13, N13, H13, G13⟩ := id F6
  refine own_go (fun t k => X0.arraylength hx (own_at e0 Ar13.1) (State.isArrayOf_alike hZ.alike Ar13.2.1) (g := (mkF m 11 (lc37 a1 a2 0) [(.ref a1), (.int 0)])) rfl rfl (hb hby d14_11) _ k) ?_
  rw [len_of S13 N13]
  obtain ⟨cl14, Ar14, q14, S14, N14, H14, G14⟩ := id F6
  have hin15 : ¬ ((0 : Int32) < 0 ∨ cl14.slots.size ≤ ((0 : Int32)).toNatClampNeg) := inb_of S14 ⟨by decide, by decide⟩
  have hat15 : cl14.slots[((0 : Int32)).toNatClampNeg]? = some (.int p3) := Has.at H14 hin15 rfl
  obtain ⟨cl16, Ar16, q16, S16, N16, H16, G16⟩ := id F11
  have hin17 : ¬ ((0 : Int32) < 0 ∨ cl16.slots.size ≤ ((0 : Int32)).toNatClampNeg) := inb_of S16 ⟨by decide, by decide⟩
  have hat17 : cl16.slots[((0 : Int32)).toNatClampNeg]? = some (.int p8) := Has.at H16 hin17 rfl
  refine own_go (U' := s₁.setTop (mkF m 21 (lc37 a1 a2 0) [(.int p8), (.int p3)])) (fun t k => oicN X0 hx hby d14_12 (by decide) (oaloadN X0 hx hby d14_15 rfl rfl (oiloadN X0 hx hby d14_16 rfl (X0.baloadBytes hx (j := (0 : Int32)) (v := (.int p3)) (own_at e0 Ar14.1) (State.isArrayOf_alike hZ.alike Ar14.2.1) Ar14.2.2 hin15 hat15 (g := (mkF m 17 (lc37 a1 a2 0) [(.int 0), (.ref a1)])) rfl rfl (hb hby d14_17) _ (oaloadN X0 hx hby d14_18 rfl rfl (oiloadN X0 hx hby d14_19 rfl (X0.baloadBytes hx (j := (0 : Int32)) (v := (.int p8)) (own_at e0 Ar16.1) (State.isArrayOf_alike hZ.alike Ar16.2.1) Ar16.2.2 hin17 hat17 (g := (mkF m 20 (lc37 a1 a2 0) [(.int 0), (.ref a2), (.int p3)])) rfl rfl (hb hby d14_20) _ k))))))) ?_
  refine own_go (U' := s₁.setTop (mkF m 11 (lc37 a1 a2 1) [(.ref a1), (.int 1)])) (fun t k => oicY (pc := 21) X0 hx hby d14_21 26 (teq hc18).1 (by decide) (oiinc X0 hx hby d14_26 (lc37 a1 a2 1) rfl rfl (ogoto (pc := 29) X0 hx hby d14_29 9 (by decide) (oiloadN X0 hx hby d14_9 rfl (oaloadN X0 hx hby d14_10 rfl rfl k))))) ?_
  obtain ⟨cl19, Ar19, q19, S19, N19, H19, G19⟩ := id F6
  refine own_go (fun t k => X0.arraylength hx (own_at e0 Ar19.1) (State.isArrayOf_alike hZ.alike Ar19.2.1) (g := (mkF m 11 (lc37 a1 a2 1) [(.ref a1), (.int 1)])) rfl rfl (hb hby d14_11) _ k) ?_
  rw [len_of S19 N19]
  obtain ⟨cl20, Ar20, q20, S20, N20, H20, G20⟩ := id F6
  have hin21 : ¬ ((1 : Int32) < 0 ∨ cl20.slots.size ≤ ((1 : Int32)).toNatClampNeg) := inb_of S20 ⟨by decide, by decide⟩
  have hat21 : cl20.slots[((1 : Int32)).toNatClampNeg]? = some (.int p4) := Has.at H20 hin21 rfl
  obtain ⟨cl22, Ar22, q22, S22, N22, H22, G22⟩ := id F11
  have hin23 : ¬ ((1 : Int32) < 0 ∨ cl22.slots.size ≤ ((1 : Int32)).toNatClampNeg) := inb_of S22 ⟨by decide, by decide⟩
  have hat23 : cl22.slots[((1 : Int32)).toNatClampNeg]? = some (.int p9) := Has.at H22 hin23 rfl
  refine own_go (U' := s₁.setTop (mkF m 21 (lc37 a1 a2 1) [(.int p9), (.int p4)])) (fun t k => oicN X0 hx hby d14_12 (by decide) (oaloadN X0 hx hby d14_15 rfl rfl (oiloadN X0 hx hby d14_16 rfl (X0.baloadBytes hx (j := (1 : Int32)) (v := (.int p4)) (own_at e0 Ar20.1) (State.isArrayOf_alike hZ.alike Ar20.2.1) Ar20.2.2 hin21 hat21 (g := (mkF m 17 (lc37 a1 a2 1) [(.int 1), (.ref a1)])) rfl rfl (hb hby d14_17) _ (oaloadN X0 hx hby d14_18 rfl rfl (oiloadN X0 hx hby d14_19 rfl (X0.baloadBytes hx (j := (1 : Int32)) (v := (.int p9)) (own_at e0 Ar22.1) (State.isArrayOf_alike hZ.alike Ar22.2.1) Ar22.2.2 hin23 hat23 (g := (mkF m 20 (lc37 a1 a2 1) [(.int 1), (.ref a2), (.int p4)])) rfl rfl (hb hby d14_20) _ k))))))) ?_
  refine own_go (U' := s₁.setTop (mkF m 11 (lc37 a1 a2 2) [(.ref a1), (.int 2)])) (fun t k => oicY (pc := 21) X0 hx hby d14_21 26 (teq hc24).1 (by decide) (oiinc X0 hx hby d14_26 (lc37 a1 a2 2) rfl rfl (ogoto (pc := 29) X0 hx hby d14_29 9 (by decide) (oiloadN X0 hx hby d14_9 rfl (oaloadN X0 hx hby d14_10 rfl rfl k))))) ?_
  obtain ⟨cl25, Ar25, q25, S25, N25, H25, G25⟩ := id F6
  refine own_go (fun t k => X0.arraylength hx (own_at e0 Ar25.1) (State.isArrayOf_alike hZ.alike Ar25.2.1) (g := (mkF m 11 (lc37 a1 a2 2) [(.ref a1), (.int 2)])) rfl rfl (hb hby d14_11) _ k) ?_
  rw [len_of S25 N25]
  refine own_go (U' := s₁.setTop (mkF m 33 (lc37 a1 a2 2) [(.int 1)])) (fun t k => oicY (pc := 12) X0 hx hby d14_12 32 (by decide) (by decide) (oiconst X0 hx hby d14_32 k)) ?_
  obtain ⟨fs, hr, hrun, hended, hW, hsame⟩ := X0.leave (v := some (.int 1)) (fun h => by rw [Bd.returns] at h; cases h)
  refine own_out ⟨_, _, ?_, hrun, hended, _, _, rfl, ?_, ⟨_, rfl⟩, hW, hsame.mono (by decide) (by decide)⟩
  · exact retN X0 hx (t := .boolean) Bd.returns (by simp) (hb hby d14_33) hr
  · show Q14_39 Z a1 a2 p3 p4 kc5 p8 p9 kc10 h0 n0 _ s₁.heap _
    rw [e0]
    exact ⟨rfl, N0, rfl⟩
def Q14_40 (Z : State) (a1 a2 : Addr) (p3 p4 : Int32) (kc5 : ClassId) (p8 p9 : Int32) (kc10 : ClassId) (h0 : Heap) (n0 : Nat) (v : Option Value) (h : Heap) (L : List Loc) : Prop := v = some (.int 0) ∧ Fr n0 L ∧ h = h0
theorem rm14_40 (l : Launch) {Z : State} {a0 : Array Value} (hw : own_W Z a0) (a1 a2 : Addr) (p3 p4 : Int32) (kc5 : ClassId) (p8 p9 : Int32) (kc10 : ClassId) (h0 : Heap) (n0 : Nat) (Z0 : n0 ≤ h0.size) (F6 : Arv Z h0 a1 kc5 .byte (2 : Int32) [(.int p3), (.int p4)] (.int (0 : Int32))) (F11 : Arv Z h0 a2 kc10 .byte (2 : Int32) [(.int p8), (.int p9)] (.int (0 : Int32))) (hc18 : p3 = p8) (hc24 : ¬ (p4 = p9)) :
    own_MF l zm11 c_14 3 (some .boolean) (own_R 0 0 0 0) #[(.ref a1), (.ref a2)] Z h0 (Q14_40 Z a1 a2 p3 p4 kc5 p8 p9 kc10 h0 n0) := by
  refine own_st (L := (lc33 a1 a2)) (own := zs22) (plainFor_of_name pn_5) rfl (fun m => ef_10 m a1 a2) fun p e s m below meth c s₁ Bd hml hZ hh hx hby hown hnm X0 e0 => ?_
  have N0 := Fr.nil n0
  refine own_go (U' := s₁.setTop (mkF m 1 (lc33 a1 a2) [(.ref a1)])) (fun t k => oaloadN X0 hx hby d14_0 rfl rfl k) ?_
  obtain ⟨cl7, Ar7, q7, S7, N7, H7, G7⟩ := id F6
  refine own_go (fun t k => X0.arraylength hx (own_at e0 Ar7.1) (State.isArrayOf_alike hZ.alike Ar7.2.1) (g := (mkF m 1 (lc33 a1 a2) [(.ref a1)])) rfl rfl (hb hby d14_1) _ k) ?_
  rw [len_of S7 N7]
  refine own_go (U' := s₁.setTop (mkF m 3 (lc33 a1 a2) [(.ref a2), (.int 2)])) (fun t k => oaloadN X0 hx hby d14_2 rfl rfl k) ?_
  obtain ⟨cl12, Ar12, q12, S12, N12, H12, G12⟩ := id F11
  refine own_go (fun t k => X0.arraylength hx (own_at e0 Ar12.1) (State.isArrayOf_alike hZ.alike Ar12.2.1) (g := (mkF m 3 (lc33 a1 a2) [(.ref a2), (.int 2)])) rfl rfl (hb hby d14_3) _ k) ?_
  rw [len_of S12 N12]
  refine own_go (U' := s₁.setTop (mkF m 11 (lc37 a1 a2 0) [(.ref a1), (.int 0)])) (fun t k => oicN X0 hx hby d14_4 (by decide) (oiconst X0 hx hby d14_7 (oistoreN X0 hx hby d14_8 (lc37 a1 a2 0) rfl (oiloadN X0 hx hby d14_9 rfl (oaloadN X0 hx hby d14_10 rfl rfl k))))) ?_
  obtain ⟨cl13, Ar13, q13, S13, N13, H13, G13⟩ := id F6
  refine own_go (fun t k => X0.arraylength hx (own_at e0 Ar13.1) (State.isArrayOf_alike hZ.alike Ar13.2.1) (g := (mkF m 11 (lc37 a1 a2 0) [(.ref a1), (.int 0)])) rfl rfl (hb hby d14_11) _ k) ?_
  rw [len_of S13 N13]
  obtain ⟨cl14, Ar14, q14, S14, N14, H14, G14⟩ := id F6
  have hin15 : ¬ ((0 : Int32) < 0 ∨ cl14.slots.size ≤ ((0 : Int32)).toNatClampNeg) := inb_of S14 ⟨by decide, by decide⟩
  have hat15 : cl14.slots[((0 : Int32)).toNatClampNeg]? = some (.int p3) := Has.at H14 hin15 rfl
  obtain ⟨cl16, Ar16, q16, S16, N16, H16, G16⟩ := id F11
  have hin17 : ¬ ((0 : Int32) < 0 ∨ cl16.slots.size ≤ ((0 : Int32)).toNatClampNeg) := inb_of S16 ⟨by decide, by decide⟩
  have hat17 : cl16.slots[((0 : Int32)).toNatClampNeg]? = some (.int p8) := Has.at H16 hin17 rfl
  refine own_go (U' := s₁.setTop (mkF m 21 (lc37 a1 a2 0) [(.int p8), (.int p3)])) (fun t k => oicN X0 hx hby d14_12 (by decide) (oaloadN X0 hx hby d14_15 rfl rfl (oiloadN X0 hx hby d14_16 rfl (X0.baloadBytes hx (j := (0 : Int32)) (v := (.int p3)) (own_at e0 Ar14.1) (State.isArrayOf_alike hZ.alike Ar14.2.1) Ar14.2.2 hin15 hat15 (g := (mkF m 17 (lc37 a1 a2 0) [(.int 0), (.ref a1)])) rfl rfl (hb hby d14_17) _ (oaloadN X0 hx hby d14_18 rfl rfl (oiloadN X0 hx hby d14_19 rfl (X0.baloadBytes hx (j := (0 : Int32)) (v := (.int p8)) (own_at e0 Ar16.1) (State.isArrayOf_alike hZ.alike Ar16.2.1) Ar16.2.2 hin17 hat17 (g := (mkF m 20 (lc37 a1 a2 0) [(.int 0), (.ref a2), (.int p3)])) rfl rfl (hb hby d14_20) _ k))))))) ?_
  refine own_go (U' := s₁.setTop (mkF m 11 (lc37 a1 a2 1) [(.ref a1), (.int 1)])) (fun t k => oicY (pc := 21) X0 hx hby d14_21 26 (teq hc18).1 (by decide) (oiinc X0 hx hby d14_26 (lc37 a1 a2 1) rfl rfl (ogoto (pc := 29) X0 hx hby d14_29 9 (by decide) (oiloadN X0 hx hby d14_9 rfl (oaloadN X0 hx hby d14_10 rfl rfl k))))) ?_
  obtain ⟨cl19, Ar19, q19, S19, N19, H19, G19⟩ := id F6
  refine own_go (fun t k => X0.arraylength hx (own_at e0 Ar19.1) (State.isArrayOf_alike hZ.alike Ar19.2.1) (g := (mkF m 11 (lc37 a1 a2 1) [(.ref a1), (.int 1)])) rfl rfl (hb hby d14_11) _ k) ?_
  rw [len_of S19 N19]
  obtain ⟨cl20, Ar20, q20, S20, N20, H20, G20⟩ := id F6
  have hin21 : ¬ ((1 : Int32) < 0 ∨ cl20.slots.size ≤ ((1 : Int32)).toNatClampNeg) := inb_of S20 ⟨by decide, by decide⟩
  have hat21 : cl20.slots[((1 : Int32)).toNatClampNeg]? = some (.int p4) := Has.at H20 hin21 rfl
  obtain ⟨cl22, Ar22, q22, S22, N22, H22, G22⟩ := id F11
  have hin23 : ¬ ((1 : Int32) < 0 ∨ cl22.slots.size ≤ ((1 : Int32)).toNatClampNeg) := inb_of S22 ⟨by decide, by decide⟩
  have hat23 : cl22.slots[((1 : Int32)).toNatClampNeg]? = some (.int p9) := Has.at H22 hin23 rfl
  refine own_go (U' := s₁.setTop (mkF m 21 (lc37 a1 a2 1) [(.int p9), (.int p4)])) (fun t k => oicN X0 hx hby d14_12 (by decide) (oaloadN X0 hx hby d14_15 rfl rfl (oiloadN X0 hx hby d14_16 rfl (X0.baloadBytes hx (j := (1 : Int32)) (v := (.int p4)) (own_at e0 Ar20.1) (State.isArrayOf_alike hZ.alike Ar20.2.1) Ar20.2.2 hin21 hat21 (g := (mkF m 17 (lc37 a1 a2 1) [(.int 1), (.ref a1)])) rfl rfl (hb hby d14_17) _ (oaloadN X0 hx hby d14_18 rfl rfl (oiloadN X0 hx hby d14_19 rfl (X0.baloadBytes hx (j := (1 : Int32)) (v := (.int p9)) (own_at e0 Ar22.1) (State.isArrayOf_alike hZ.alike Ar22.2.1) Ar22.2.2 hin23 hat23 (g := (mkF m 20 (lc37 a1 a2 1) [(.int 1), (.ref a2), (.int p4)])) rfl rfl (hb hby d14_20) _ k))))))) ?_
  refine own_go (U' := s₁.setTop (mkF m 25 (lc37 a1 a2 1) [(.int 0)])) (fun t k => oicN X0 hx hby d14_21 (feq hc24).1 (oiconst X0 hx hby d14_24 k)) ?_
  obtain ⟨fs, hr, hrun, hended, hW, hsame⟩ := X0.leave (v := some (.int 0)) (fun h => by rw [Bd.returns] at h; cases h)
  refine own_out ⟨_, _, ?_, hrun, hended, _, _, rfl, ?_, ⟨_, rfl⟩, hW, hsame.mono (by decide) (by decide)⟩
  · exact retN X0 hx (t := .boolean) Bd.returns (by simp) (hb hby d14_25) hr
  · show Q14_40 Z a1 a2 p3 p4 kc5 p8 p9 kc10 h0 n0 _ s₁.heap _
    rw [e0]
    exact ⟨rfl, N0, rfl⟩
def Q14_41 (Z : State) (a1 a2 : Addr) (p3 p4 : Int32) (kc5 : ClassId) (p8 p9 : Int32) (kc10 : ClassId) (h0 : Heap) (n0 : Nat) (v : Option Value) (h : Heap) (L : List Loc) : Prop := v = some (.int 0) ∧ Fr n0 L ∧ h = h0
theorem rm14_41 (l : Launch) {Z : State} {a0 : Array Value} (hw : own_W Z a0) (a1 a2 : Addr) (p3 p4 : Int32) (kc5 : ClassId) (p8 p9 : Int32) (kc10 : ClassId) (h0 : Heap) (n0 : Nat) (Z0 : n0 ≤ h0.size) (F6 : Arv Z h0 a1 kc5 .byte (2 : Int32) [(.int p3), (.int p4)] (.int (0 : Int32))) (F11 : Arv Z h0 a2 kc10 .byte (2 : Int32) [(.int p8), (.int p9)] (.int (0 : Int32))) (hc18 : ¬ (p3 = p8)) :
    own_MF l zm11 c_14 3 (some .boolean) (own_R 0 0 0 0) #[(.ref a1), (.ref a2)] Z h0 (Q14_41 Z a1 a2 p3 p4 kc5 p8 p9 kc10 h0 n0) := by
  refine own_st (L := (lc33 a1 a2)) (own := zs22) (plainFor_of_name pn_5) rfl (fun m => ef_10 m a1 a2) fun p e s m below meth c s₁ Bd hml hZ hh hx hby hown hnm X0 e0 => ?_
  have N0 := Fr.nil n0
  refine own_go (U' := s₁.setTop (mkF m 1 (lc33 a1 a2) [(.ref a1)])) (fun t k => oaloadN X0 hx hby d14_0 rfl rfl k) ?_
  obtain ⟨cl7, Ar7, q7, S7, N7, H7, G7⟩ := id F6
  refine own_go (fun t k => X0.arraylength hx (own_at e0 Ar7.1) (State.isArrayOf_alike hZ.alike Ar7.2.1) (g := (mkF m 1 (lc33 a1 a2) [(.ref a1)])) rfl rfl (hb hby d14_1) _ k) ?_
  rw [len_of S7 N7]
  refine own_go (U' := s₁.setTop (mkF m 3 (lc33 a1 a2) [(.ref a2), (.int 2)])) (fun t k => oaloadN X0 hx hby d14_2 rfl rfl k) ?_
  obtain ⟨cl12, Ar12, q12, S12, N12, H12, G12⟩ := id F11
  refine own_go (fun t k => X0.arraylength hx (own_at e0 Ar12.1) (State.isArrayOf_alike hZ.alike Ar12.2.1) (g := (mkF m 3 (lc33 a1 a2) [(.ref a2), (.int 2)])) rfl rfl (hb hby d14_3) _ k) ?_
  rw [len_of S12 N12]
  refine own_go (U' := s₁.setTop (mkF m 11 (lc37 a1 a2 0) [(.ref a1), (.int 0)])) (fun t k => oicN X0 hx hby d14_4 (by decide) (oiconst X0 hx hby d14_7 (oistoreN X0 hx hby d14_8 (lc37 a1 a2 0) rfl (oiloadN X0 hx hby d14_9 rfl (oaloadN X0 hx hby d14_10 rfl rfl k))))) ?_
  obtain ⟨cl13, Ar13, q13, S13, N13, H13, G13⟩ := id F6
  refine own_go (fun t k => X0.arraylength hx (own_at e0 Ar13.1) (State.isArrayOf_alike hZ.alike Ar13.2.1) (g := (mkF m 11 (lc37 a1 a2 0) [(.ref a1), (.int 0)])) rfl rfl (hb hby d14_11) _ k) ?_
  rw [len_of S13 N13]
  obtain ⟨cl14, Ar14, q14, S14, N14, H14, G14⟩ := id F6
  have hin15 : ¬ ((0 : Int32) < 0 ∨ cl14.slots.size ≤ ((0 : Int32)).toNatClampNeg) := inb_of S14 ⟨by decide, by decide⟩
  have hat15 : cl14.slots[((0 : Int32)).toNatClampNeg]? = some (.int p3) := Has.at H14 hin15 rfl
  obtain ⟨cl16, Ar16, q16, S16, N16, H16, G16⟩ := id F11
  have hin17 : ¬ ((0 : Int32) < 0 ∨ cl16.slots.size ≤ ((0 : Int32)).toNatClampNeg) := inb_of S16 ⟨by decide, by decide⟩
  have hat17 : cl16.slots[((0 : Int32)).toNatClampNeg]? = some (.int p8) := Has.at H16 hin17 rfl
  refine own_go (U' := s₁.setTop (mkF m 21 (lc37 a1 a2 0) [(.int p8), (.int p3)])) (fun t k => oicN X0 hx hby d14_12 (by decide) (oaloadN X0 hx hby d14_15 rfl rfl (oiloadN X0 hx hby d14_16 rfl (X0.baloadBytes hx (j := (0 : Int32)) (v := (.int p3)) (own_at e0 Ar14.1) (State.isArrayOf_alike hZ.alike Ar14.2.1) Ar14.2.2 hin15 hat15 (g := (mkF m 17 (lc37 a1 a2 0) [(.int 0), (.ref a1)])) rfl rfl (hb hby d14_17) _ (oaloadN X0 hx hby d14_18 rfl rfl (oiloadN X0 hx hby d14_19 rfl (X0.baloadBytes hx (j := (0 : Int32)) (v := (.int p8)) (own_at e0 Ar16.1) (State.isArrayOf_alike hZ.alike Ar16.2.1) Ar16.2.2 hin17 hat17 (g := (mkF m 20 (lc37 a1 a2 0) [(.int 0), (.ref a2), (.int p3)])) rfl rfl (hb hby d14_20) _ k))))))) ?_
  refine own_go (U' := s₁.setTop (mkF m 25 (lc37 a1 a2 0) [(.int 0)])) (fun t k => oicN X0 hx hby d14_21 (feq hc18).1 (oiconst X0 hx hby d14_24 k)) ?_
  obtain ⟨fs, hr, hrun, hended, hW, hsame⟩ := X0.leave (v := some (.int 0)) (fun h => by rw [Bd.returns] at h; cases h)
  refine own_out ⟨_, _, ?_, hrun, hended, _, _, rfl, ?_, ⟨_, rfl⟩, hW, hsame.mono (by decide) (by decide)⟩
  · exact retN X0 hx (t := .boolean) Bd.returns (by simp) (hb hby d14_25) hr
  · show Q14_41 Z a1 a2 p3 p4 kc5 p8 p9 kc10 h0 n0 _ s₁.heap _
    rw [e0]
    exact ⟨rfl, N0, rfl⟩
def Q13_42 (Z : State) (a1 a2 : Addr) (p4 p5 p6 p10 p14 p15 p16 : Int32) (h0 : Heap) (n0 : Nat) (v : Option Value) (h : Heap) (L : List Loc) : Prop := v = some (.int (own_seq p14 p15 p16 p4 p5 p6)) ∧ Fr n0 L ∧ h = h0
theorem rm13_42 (l : Launch) {Z : State} {a0 : Array Value} (hw : own_W Z a0) (a1 a2 : Addr) (p4 p5 p6 p10 p14 p15 p16 : Int32) (h0 : Heap) (n0 : Nat) (Z0 : n0 ≤ h0.size) (ha3 : a1 ≠ a2) (F7 : own_Str Z h0 a2 p4 p5 p6) (F11 : Sta Z h0 zs0 zs7 "Z" (.int p10)) (hc13 : ¬ (p10 = (0 : Int32))) (F17 : own_Str Z h0 a1 p14 p15 p16) (hc19 : p14 = (0 : Int32)) (hc22 : p4 = (0 : Int32)) :
    own_MF l zm12 c_13 3 (some .boolean) (own_R 1 0 0 14) #[(.ref a1), (.ref a2)] Z h0 (Q13_42 Z a1 a2 p4 p5 p6 p10 p14 p15 p16 h0 n0) := by
  refine own_st (L := (lc33 a1 a2)) (own := zs0) (plainFor_of_name pn_0) rfl (fun m => ef_10 m a1 a2) fun p e s m below meth c s₁ Bd hml hZ hh hx hby hown hnm X0 e0 => ?_
  have N0 := Fr.nil n0
  obtain ⟨T8, X8, e8, st8⟩ := instY X0 hx hZ hown (ww hw 83 rfl) e0 (Ins.self (own_Str.E F7)) (g := (mkF m 8 (lc33 a1 a2) [(.ref a2)])) rfl rfl (hb hby d13_8)
  refine own_go (U' := T8.setTop (mkF m 11 (lc33 a1 a2) [(.int 1)])) (fun t k => oaloadN X0 hx hby d13_0 rfl rfl (oaloadN X0 hx hby d13_1 rfl rfl (oacmp (pc := 2) X0 hx hby d13_2 7 (same := false) rfl rfl (decide_eq_false fun q => ha3 (Value.ref.inj q)) (by decide) (oaloadN X0 hx hby d13_7 rfl rfl (st8 _ k))))) ?_
  obtain ⟨T9, X9, e9, st9⟩ := castY X8 hx hZ hown (ww hw 83 rfl) e8 (Ins.self (own_Str.E F7)) (g := (mkF m 15 (lc33 a1 a2) [(.ref a2)])) rfl rfl (hb hby d13_15)
  obtain ⟨T12, X12, e12, st12⟩ := getS2 X9 hx hZ hown (host := "") (Or.inl (ww hw 60 rfl)) Via.refl e9 F11 (g := (mkF m 19 (lc36 a1 a2 a2) [])) rfl (hb hby d13_19)
  refine own_go (U' := T12.setTop (mkF m 22 (lc36 a1 a2 a2) [(.int p10)])) (fun t k => oifN X8 hx hby d13_11 (by decide) (oaloadN X8 hx hby d13_14 rfl rfl (st9 _ (oastoreN X9 hx hby d13_18 (lc36 a1 a2 a2) rfl rfl (st12 _ k))))) ?_
  obtain ⟨bv18, k18, f18c, f18v, f18a⟩ := own_Str.at0 F17 hc19
  obtain ⟨T20, X20, e20, st20⟩ := getF X12 hx hZ hown (host := "") (Or.inl (ww hw 25 rfl)) Via.refl e12 f18c (g := (mkF m 26 (lc36 a1 a2 a2) [(.ref a1)])) rfl rfl (hb hby d13_26)
  obtain ⟨bv21, k21, f21c, f21v, f21a⟩ := own_Str.at0 F7 hc22
  obtain ⟨T23, X23, e23, st23⟩ := getF X20 hx hZ hown (host := "") (Or.inl (ww hw 25 rfl)) Via.refl e20 f21c (g := (mkF m 30 (lc36 a1 a2 a2) [(.ref a2), (.int 0)])) rfl rfl (hb hby d13_30)
  refine own_go (U' := T23.setTop (mkF m 33 (lc36 a1 a2 a2) [(.int 0), (.int 0)])) (fun t k => oifN X12 hx hby d13_22 ((if0 _ _).trans (feq hc13).1) (oaloadN X12 hx hby d13_25 rfl rfl (st20 _ (oaloadN X20 hx hby d13_29 rfl rfl (st23 _ k))))) ?_
  obtain ⟨T24, X24, e24, st24⟩ := getF X23 hx hZ hown (host := "") (Or.inl (ww hw 24 rfl)) Via.refl e23 f18v (g := (mkF m 37 (lc36 a1 a2 a2) [(.ref a1)])) rfl rfl (hb hby d13_37)
  obtain ⟨T25, X25, e25, st25⟩ := getF X24 hx hZ hown (host := "") (Or.inl (ww hw 24 rfl)) Via.refl e24 f21v (g := (mkF m 41 (lc36 a1 a2 a2) [(.ref a2), (.ref bv18)])) rfl rfl (hb hby d13_41)
  obtain ⟨_, T26, L26, X26, hQ26, st26⟩ := ocallS X25 hx hZ zm11 hown (ww hw 84 rfl) (ww hw 85 rfl) (by decide) (ww hw 87 rfl) (ww hw 86 rfl) e25 (rm14_30 l hw bv18 bv21 k18 k21 h0 n0 Z0 f18a f21a) (st := [(.ref bv21), (.ref bv18)]) rfl 0 rfl (by decide) (pc := 44) (Ls := (lc36 a1 a2 a2)) hml rfl (lenOf pd_11 rfl) d13_44 hby
  obtain ⟨rfl, N26q, e26⟩ := hQ26
  have N27 := Fr.app N0 N26q
  refine own_go (U' := T26.setTop (mkF m 47 (lc36 a1 a2 a2) [(.int 1)])) (fun t k => oicN X23 hx hby d13_33 (by decide) (oaloadN X23 hx hby d13_36 rfl rfl (st24 _ (oaloadN X24 hx hby d13_40 rfl rfl (st25 _ (st26 _ k)))))) ?_
  refine own_go (U' := T26.setTop (mkF m 55 (lc36 a1 a2 a2) [(.int 1)])) (fun t k => oifN X26 hx hby d13_47 (by decide) (oiconst X26 hx hby d13_50 (ogoto (pc := 51) X26 hx hby d13_51 55 (by decide) k))) ?_
  obtain ⟨fs, hr, hrun, hended, hW, hsame⟩ := X26.leave (v := some (.int 1)) (fun h => by rw [Bd.returns] at h; cases h)
  refine own_out ⟨_, _, ?_, hrun, hended, _, _, rfl, ?_, ⟨_, rfl⟩, hW, hsame.mono (by decide) (by decide)⟩
  · exact retN X26 hx (t := .boolean) Bd.returns (by simp) (hb hby d13_55) hr
  · show Q13_42 Z a1 a2 p4 p5 p6 p10 p14 p15 p16 h0 n0 _ T26.heap _
    rw [e26]
    exact ⟨(congrArg (fun z => some (Value.int z)) (Eq.symm (own_seq_0 (Eq.trans hc19 (Eq.symm hc22)) (by rw [show p14 = _ from hc19]; decide)))), N27, rfl⟩
def Q13_43 (Z : State) (a1 a2 : Addr) (p4 p5 p6 p10 p14 p15 p16 : Int32) (h0 : Heap) (n0 : Nat) (v : Option Value) (h : Heap) (L : List Loc) : Prop := v = some (.int (own_seq p14 p15 p16 p4 p5 p6)) ∧ Fr n0 L ∧ h = h0
theorem rm13_43 (l : Launch) {Z : State} {a0 : Array Value} (hw : own_W Z a0) (a1 a2 : Addr) (p4 p5 p6 p10 p14 p15 p16 : Int32) (h0 : Heap) (n0 : Nat) (Z0 : n0 ≤ h0.size) (ha3 : a1 ≠ a2) (F7 : own_Str Z h0 a2 p4 p5 p6) (F11 : Sta Z h0 zs0 zs7 "Z" (.int p10)) (hc13 : ¬ (p10 = (0 : Int32))) (F17 : own_Str Z h0 a1 p14 p15 p16) (hc19 : p14 = (0 : Int32)) (hc22 : ¬ (p4 = (0 : Int32))) (hc23 : p4 = (1 : Int32)) :
    own_MF l zm12 c_13 3 (some .boolean) (own_R 1 0 0 14) #[(.ref a1), (.ref a2)] Z h0 (Q13_43 Z a1 a2 p4 p5 p6 p10 p14 p15 p16 h0 n0) := by
  refine own_st (L := (lc33 a1 a2)) (own := zs0) (plainFor_of_name pn_0) rfl (fun m => ef_10 m a1 a2) fun p e s m below meth c s₁ Bd hml hZ hh hx hby hown hnm X0 e0 => ?_
  have N0 := Fr.nil n0
  obtain ⟨T8, X8, e8, st8⟩ := instY X0 hx hZ hown (ww hw 83 rfl) e0 (Ins.self (own_Str.E F7)) (g := (mkF m 8 (lc33 a1 a2) [(.ref a2)])) rfl rfl (hb hby d13_8)
  refine own_go (U' := T8.setTop (mkF m 11 (lc33 a1 a2) [(.int 1)])) (fun t k => oaloadN X0 hx hby d13_0 rfl rfl (oaloadN X0 hx hby d13_1 rfl rfl (oacmp (pc := 2) X0 hx hby d13_2 7 (same := false) rfl rfl (decide_eq_false fun q => ha3 (Value.ref.inj q)) (by decide) (oaloadN X0 hx hby d13_7 rfl rfl (st8 _ k))))) ?_
  obtain ⟨T9, X9, e9, st9⟩ := castY X8 hx hZ hown (ww hw 83 rfl) e8 (Ins.self (own_Str.E F7)) (g := (mkF m 15 (lc33 a1 a2) [(.ref a2)])) rfl rfl (hb hby d13_15)
  obtain ⟨T12, X12, e12, st12⟩ := getS2 X9 hx hZ hown (host := "") (Or.inl (ww hw 60 rfl)) Via.refl e9 F11 (g := (mkF m 19 (lc36 a1 a2 a2) [])) rfl (hb hby d13_19)
  refine own_go (U' := T12.setTop (mkF m 22 (lc36 a1 a2 a2) [(.int p10)])) (fun t k => oifN X8 hx hby d13_11 (by decide) (oaloadN X8 hx hby d13_14 rfl rfl (st9 _ (oastoreN X9 hx hby d13_18 (lc36 a1 a2 a2) rfl rfl (st12 _ k))))) ?_
  obtain ⟨bv18, k18, f18c, f18v, f18a⟩ := own_Str.at0 F17 hc19
  obtain ⟨T20, X20, e20, st20⟩ := getF X12 hx hZ hown (host := "") (Or.inl (ww hw 25 rfl)) Via.refl e12 f18c (g := (mkF m 26 (lc36 a1 a2 a2) [(.ref a1)])) rfl rfl (hb hby d13_26)
  obtain ⟨bv21, k21, f21c, f21v, f21a⟩ := own_Str.at1 F7 hc23
  obtain ⟨T24, X24, e24, st24⟩ := getF X20 hx hZ hown (host := "") (Or.inl (ww hw 25 rfl)) Via.refl e20 f21c (g := (mkF m 30 (lc36 a1 a2 a2) [(.ref a2), (.int 0)])) rfl rfl (hb hby d13_30)
  refine own_go (U' := T24.setTop (mkF m 33 (lc36 a1 a2 a2) [(.int 0), (.int 0)])) (fun t k => oifN X12 hx hby d13_22 ((if0 _ _).trans (feq hc13).1) (oaloadN X12 hx hby d13_25 rfl rfl (st20 _ (oaloadN X20 hx hby d13_29 rfl rfl (st24 _ k))))) ?_
  obtain ⟨T25, X25, e25, st25⟩ := getF X24 hx hZ hown (host := "") (Or.inl (ww hw 24 rfl)) Via.refl e24 f18v (g := (mkF m 37 (lc36 a1 a2 a2) [(.ref a1)])) rfl rfl (hb hby d13_37)
  obtain ⟨T26, X26, e26, st26⟩ := getF X25 hx hZ hown (host := "") (Or.inl (ww hw 24 rfl)) Via.refl e25 f21v (g := (mkF m 41 (lc36 a1 a2 a2) [(.ref a2), (.ref bv18)])) rfl rfl (hb hby d13_41)
  obtain ⟨_, T27, L27, X27, hQ27, st27⟩ := ocallS X26 hx hZ zm11 hown (ww hw 84 rfl) (ww hw 85 rfl) (by decide) (ww hw 87 rfl) (ww hw 86 rfl) e26 (rm14_31 l hw bv18 bv21 k18 (p5.toInt8.toInt32) k21 h0 n0 Z0 f18a f21a) (st := [(.ref bv21), (.ref bv18)]) rfl 0 rfl (by decide) (pc := 44) (Ls := (lc36 a1 a2 a2)) hml rfl (lenOf pd_11 rfl) d13_44 hby
  obtain ⟨rfl, N27q, e27⟩ := hQ27
  have N28 := Fr.app N0 N27q
  refine own_go (U' := T27.setTop (mkF m 47 (lc36 a1 a2 a2) [(.int 0)])) (fun t k => oicN X24 hx hby d13_33 (by decide) (oaloadN X24 hx hby d13_36 rfl rfl (st25 _ (oaloadN X25 hx hby d13_40 rfl rfl (st26 _ (st27 _ k)))))) ?_
  refine own_go (U' := T27.setTop (mkF m 55 (lc36 a1 a2 a2) [(.int 0)])) (fun t k => oifY (pc := 47) X27 hx hby d13_47 54 (by decide) (by decide) (oiconst X27 hx hby d13_54 k)) ?_
  obtain ⟨fs, hr, hrun, hended, hW, hsame⟩ := X27.leave (v := some (.int 0)) (fun h => by rw [Bd.returns] at h; cases h)
  refine own_out ⟨_, _, ?_, hrun, hended, _, _, rfl, ?_, ⟨_, rfl⟩, hW, hsame.mono (by decide) (by decide)⟩
  · exact retN X27 hx (t := .boolean) Bd.returns (by simp) (hb hby d13_55) hr
  · show Q13_43 Z a1 a2 p4 p5 p6 p10 p14 p15 p16 h0 n0 _ T27.heap _
    rw [e27]
    exact ⟨(congrArg (fun z => some (Value.int z)) (Eq.symm (own_seq_n (fun e => absurd (Eq.trans (Eq.symm hc19) (Eq.trans e hc23)) (by decide))))), N28, rfl⟩
def Q13_44 (Z : State) (a1 a2 : Addr) (p4 p5 p6 p10 p14 p15 p16 : Int32) (h0 : Heap) (n0 : Nat) (v : Option Value) (h : Heap) (L : List Loc) : Prop := v = some (.int (own_seq p14 p15 p16 p4 p5 p6)) ∧ Fr n0 L ∧ h = h0
theorem rm13_44 (l : Launch) {Z : State} {a0 : Array Value} (hw : own_W Z a0) (a1 a2 : Addr) (p4 p5 p6 p10 p14 p15 p16 : Int32) (h0 : Heap) (n0 : Nat) (Z0 : n0 ≤ h0.size) (ha3 : a1 ≠ a2) (F7 : own_Str Z h0 a2 p4 p5 p6) (F11 : Sta Z h0 zs0 zs7 "Z" (.int p10)) (hc13 : ¬ (p10 = (0 : Int32))) (F17 : own_Str Z h0 a1 p14 p15 p16) (hc19 : p14 = (0 : Int32)) (hc22 : ¬ (p4 = (0 : Int32))) (hc23 : ¬ (p4 = (1 : Int32))) (hc29 : ¬ (p4 < (0 : Int32))) (hc30 : p4 < (3 : Int32)) :
    own_MF l zm12 c_13 3 (some .boolean) (own_R 1 0 0 14) #[(.ref a1), (.ref a2)] Z h0 (Q13_44 Z a1 a2 p4 p5 p6 p10 p14 p15 p16 h0 n0) := by
  refine own_st (L := (lc33 a1 a2)) (own := zs0) (plainFor_of_name pn_0) rfl (fun m => ef_10 m a1 a2) fun p e s m below meth c s₁ Bd hml hZ hh hx hby hown hnm X0 e0 => ?_
  have N0 := Fr.nil n0
  obtain ⟨T8, X8, e8, st8⟩ := instY X0 hx hZ hown (ww hw 83 rfl) e0 (Ins.self (own_Str.E F7)) (g := (mkF m 8 (lc33 a1 a2) [(.ref a2)])) rfl rfl (hb hby d13_8)
  refine own_go (U' := T8.setTop (mkF m 11 (lc33 a1 a2) [(.int 1)])) (fun t k => oaloadN X0 hx hby d13_0 rfl rfl (oaloadN X0 hx hby d13_1 rfl rfl (oacmp (pc := 2) X0 hx hby d13_2 7 (same := false) rfl rfl (decide_eq_false fun q => ha3 (Value.ref.inj q)) (by decide) (oaloadN X0 hx hby d13_7 rfl rfl (st8 _ k))))) ?_
  obtain ⟨T9, X9, e9, st9⟩ := castY X8 hx hZ hown (ww hw 83 rfl) e8 (Ins.self (own_Str.E F7)) (g := (mkF m 15 (lc33 a1 a2) [(.ref a2)])) rfl rfl (hb hby d13_15)
  obtain ⟨T12, X12, e12, st12⟩ := getS2 X9 hx hZ hown (host := "") (Or.inl (ww hw 60 rfl)) Via.refl e9 F11 (g := (mkF m 19 (lc36 a1 a2 a2) [])) rfl (hb hby d13_19)
  refine own_go (U' := T12.setTop (mkF m 22 (lc36 a1 a2 a2) [(.int p10)])) (fun t k => oifN X8 hx hby d13_11 (by decide) (oaloadN X8 hx hby d13_14 rfl rfl (st9 _ (oastoreN X9 hx hby d13_18 (lc36 a1 a2 a2) rfl rfl (st12 _ k))))) ?_
  obtain ⟨bv18, k18, f18c, f18v, f18a⟩ := own_Str.at0 F17 hc19
  obtain ⟨T20, X20, e20, st20⟩ := getF X12 hx hZ hown (host := "") (Or.inl (ww hw 25 rfl)) Via.refl e12 f18c (g := (mkF m 26 (lc36 a1 a2 a2) [(.ref a1)])) rfl rfl (hb hby d13_26)
  obtain ⟨bv21, k21, f21c, f21v, f21a⟩ := own_Str.at2 F7 hc22 hc23
  obtain ⟨T24, X24, e24, st24⟩ := getF X20 hx hZ hown (host := "") (Or.inl (ww hw 25 rfl)) Via.refl e20 f21c (g := (mkF m 30 (lc36 a1 a2 a2) [(.ref a2), (.int 0)])) rfl rfl (hb hby d13_30)
  refine own_go (U' := T24.setTop (mkF m 33 (lc36 a1 a2 a2) [(.int 0), (.int 0)])) (fun t k => oifN X12 hx hby d13_22 ((if0 _ _).trans (feq hc13).1) (oaloadN X12 hx hby d13_25 rfl rfl (st20 _ (oaloadN X20 hx hby d13_29 rfl rfl (st24 _ k))))) ?_
  obtain ⟨T25, X25, e25, st25⟩ := getF X24 hx hZ hown (host := "") (Or.inl (ww hw 24 rfl)) Via.refl e24 f18v (g := (mkF m 37 (lc36 a1 a2 a2) [(.ref a1)])) rfl rfl (hb hby d13_37)
  obtain ⟨T26, X26, e26, st26⟩ := getF X25 hx hZ hown (host := "") (Or.inl (ww hw 24 rfl)) Via.refl e25 f21v (g := (mkF m 41 (lc36 a1 a2 a2) [(.ref a2), (.ref bv18)])) rfl rfl (hb hby d13_41)
  obtain ⟨_, T27, L27, X27, hQ27, st27⟩ := ocallS X26 hx hZ zm11 hown (ww hw 84 rfl) (ww hw 85 rfl) (by decide) (ww hw 87 rfl) (ww hw 86 rfl) e26 (rm14_32 l hw bv18 bv21 k18 (p5.toInt8.toInt32) (p6.toInt8.toInt32) k21 h0 n0 Z0 f18a f21a) (st := [(.ref bv21), (.ref bv18)]) rfl 0 rfl (by decide) (pc := 44) (Ls := (lc36 a1 a2 a2)) hml rfl (lenOf pd_11 rfl) d13_44 hby
  obtain ⟨rfl, N27q, e27⟩ := hQ27
  have N28 := Fr.app N0 N27q
  refine own_go (U' := T27.setTop (mkF m 47 (lc36 a1 a2 a2) [(.int 0)])) (fun t k => oicN X24 hx hby d13_33 (by decide) (oaloadN X24 hx hby d13_36 rfl rfl (st25 _ (oaloadN X25 hx hby d13_40 rfl rfl (st26 _ (st27 _ k)))))) ?_
  refine own_go (U' := T27.setTop (mkF m 55 (lc36 a1 a2 a2) [(.int 0)])) (fun t k => oifY (pc := 47) X27 hx hby d13_47 54 (by decide) (by decide) (oiconst X27 hx hby d13_54 k)) ?_
  obtain ⟨fs, hr, hrun, hended, hW, hsame⟩ := X27.leave (v := some (.int 0)) (fun h => by rw [Bd.returns] at h; cases h)
  refine own_out ⟨_, _, ?_, hrun, hended, _, _, rfl, ?_, ⟨_, rfl⟩, hW, hsame.mono (by decide) (by decide)⟩
  · exact retN X27 hx (t := .boolean) Bd.returns (by simp) (hb hby d13_55) hr
  · show Q13_44 Z a1 a2 p4 p5 p6 p10 p14 p15 p16 h0 n0 _ T27.heap _
    rw [e27]
    exact ⟨(congrArg (fun z => some (Value.int z)) (Eq.symm (own_seq_n (fun e => absurd (Eq.trans (Eq.symm hc19) (Eq.trans e (own_is2 hc29 hc30 hc22 hc23))) (by decide))))), N28, rfl⟩
def Q13_45 (Z : State) (a1 a2 : Addr) (p4 p5 p6 p10 p14 p15 p16 : Int32) (h0 : Heap) (n0 : Nat) (v : Option Value) (h : Heap) (L : List Loc) : Prop := v = some (.int (own_seq p14 p15 p16 p4 p5 p6)) ∧ Fr n0 L ∧ h = h0
theorem rm13_45 (l : Launch) {Z : State} {a0 : Array Value} (hw : own_W Z a0) (a1 a2 : Addr) (p4 p5 p6 p10 p14 p15 p16 : Int32) (h0 : Heap) (n0 : Nat) (Z0 : n0 ≤ h0.size) (ha3 : a1 ≠ a2) (F7 : own_Str Z h0 a2 p4 p5 p6) (F11 : Sta Z h0 zs0 zs7 "Z" (.int p10)) (hc13 : ¬ (p10 = (0 : Int32))) (F17 : own_Str Z h0 a1 p14 p15 p16) (hc19 : ¬ (p14 = (0 : Int32))) (hc20 : p14 = (1 : Int32)) (hc23 : p4 = (0 : Int32)) :
    own_MF l zm12 c_13 3 (some .boolean) (own_R 1 0 0 14) #[(.ref a1), (.ref a2)] Z h0 (Q13_45 Z a1 a2 p4 p5 p6 p10 p14 p15 p16 h0 n0) := by
  refine own_st (L := (lc33 a1 a2)) (own := zs0) (plainFor_of_name pn_0) rfl (fun m => ef_10 m a1 a2) fun p e s m below meth c s₁ Bd hml hZ hh hx hby hown hnm X0 e0 => ?_
  have N0 := Fr.nil n0
  obtain ⟨T8, X8, e8, st8⟩ := instY X0 hx hZ hown (ww hw 83 rfl) e0 (Ins.self (own_Str.E F7)) (g := (mkF m 8 (lc33 a1 a2) [(.ref a2)])) rfl rfl (hb hby d13_8)
  refine own_go (U' := T8.setTop (mkF m 11 (lc33 a1 a2) [(.int 1)])) (fun t k => oaloadN X0 hx hby d13_0 rfl rfl (oaloadN X0 hx hby d13_1 rfl rfl (oacmp (pc := 2) X0 hx hby d13_2 7 (same := false) rfl rfl (decide_eq_false fun q => ha3 (Value.ref.inj q)) (by decide) (oaloadN X0 hx hby d13_7 rfl rfl (st8 _ k))))) ?_
  obtain ⟨T9, X9, e9, st9⟩ := castY X8 hx hZ hown (ww hw 83 rfl) e8 (Ins.self (own_Str.E F7)) (g := (mkF m 15 (lc33 a1 a2) [(.ref a2)])) rfl rfl (hb hby d13_15)
  obtain ⟨T12, X12, e12, st12⟩ := getS2 X9 hx hZ hown (host := "") (Or.inl (ww hw 60 rfl)) Via.refl e9 F11 (g := (mkF m 19 (lc36 a1 a2 a2) [])) rfl (hb hby d13_19)
  refine own_go (U' := T12.setTop (mkF m 22 (lc36 a1 a2 a2) [(.int p10)])) (fun t k => oifN X8 hx hby d13_11 (by decide) (oaloadN X8 hx hby d13_14 rfl rfl (st9 _ (oastoreN X9 hx hby d13_18 (lc36 a1 a2 a2) rfl rfl (st12 _ k))))) ?_
  obtain ⟨bv18, k18, f18c, f18v, f18a⟩ := own_Str.at1 F17 hc20
  obtain ⟨T21, X21, e21, st21⟩ := getF X12 hx hZ hown (host := "") (Or.inl (ww hw 25 rfl)) Via.refl e12 f18c (g := (mkF m 26 (lc36 a1 a2 a2) [(.ref a1)])) rfl rfl (hb hby d13_26)
  obtain ⟨bv22, k22, f22c, f22v, f22a⟩ := own_Str.at0 F7 hc23
  obtain ⟨T24, X24, e24, st24⟩ := getF X21 hx hZ hown (host := "") (Or.inl (ww hw 25 rfl)) Via.refl e21 f22c (g := (mkF m 30 (lc36 a1 a2 a2) [(.ref a2), (.int 0)])) rfl rfl (hb hby d13_30)
  refine own_go (U' := T24.setTop (mkF m 33 (lc36 a1 a2 a2) [(.int 0), (.int 0)])) (fun t k => oifN X12 hx hby d13_22 ((if0 _ _).trans (feq hc13).1) (oaloadN X12 hx hby d13_25 rfl rfl (st21 _ (oaloadN X21 hx hby d13_29 rfl rfl (st24 _ k))))) ?_
  obtain ⟨T25, X25, e25, st25⟩ := getF X24 hx hZ hown (host := "") (Or.inl (ww hw 24 rfl)) Via.refl e24 f18v (g := (mkF m 37 (lc36 a1 a2 a2) [(.ref a1)])) rfl rfl (hb hby d13_37)
  obtain ⟨T26, X26, e26, st26⟩ := getF X25 hx hZ hown (host := "") (Or.inl (ww hw 24 rfl)) Via.refl e25 f22v (g := (mkF m 41 (lc36 a1 a2 a2) [(.ref a2), (.ref bv18)])) rfl rfl (hb hby d13_41)
  obtain ⟨_, T27, L27, X27, hQ27, st27⟩ := ocallS X26 hx hZ zm11 hown (ww hw 84 rfl) (ww hw 85 rfl) (by decide) (ww hw 87 rfl) (ww hw 86 rfl) e26 (rm14_33 l hw bv18 bv22 (p15.toInt8.toInt32) k18 k22 h0 n0 Z0 f18a f22a) (st := [(.ref bv22), (.ref bv18)]) rfl 0 rfl (by decide) (pc := 44) (Ls := (lc36 a1 a2 a2)) hml rfl (lenOf pd_11 rfl) d13_44 hby
  obtain ⟨rfl, N27q, e27⟩ := hQ27
  have N28 := Fr.app N0 N27q
  refine own_go (U' := T27.setTop (mkF m 47 (lc36 a1 a2 a2) [(.int 0)])) (fun t k => oicN X24 hx hby d13_33 (by decide) (oaloadN X24 hx hby d13_36 rfl rfl (st25 _ (oaloadN X25 hx hby d13_40 rfl rfl (st26 _ (st27 _ k)))))) ?_
  refine own_go (U' := T27.setTop (mkF m 55 (lc36 a1 a2 a2) [(.int 0)])) (fun t k => oifY (pc := 47) X27 hx hby d13_47 54 (by decide) (by decide) (oiconst X27 hx hby d13_54 k)) ?_
  obtain ⟨fs, hr, hrun, hended, hW, hsame⟩ := X27.leave (v := some (.int 0)) (fun h => by rw [Bd.returns] at h; cases h)
  refine own_out ⟨_, _, ?_, hrun, hended, _, _, rfl, ?_, ⟨_, rfl⟩, hW, hsame.mono (by decide) (by decide)⟩
  · exact retN X27 hx (t := .boolean) Bd.returns (by simp) (hb hby d13_55) hr
  · show Q13_45 Z a1 a2 p4 p5 p6 p10 p14 p15 p16 h0 n0 _ T27.heap _
    rw [e27]
    exact ⟨(congrArg (fun z => some (Value.int z)) (Eq.symm (own_seq_n (fun e => absurd (Eq.trans (Eq.symm hc20) (Eq.trans e hc23)) (by decide))))), N28, rfl⟩
def Q13_46 (Z : State) (a1 a2 : Addr) (p4 p5 p6 p10 p14 p15 p16 : Int32) (h0 : Heap) (n0 : Nat) (v : Option Value) (h : Heap) (L : List Loc) : Prop := v = some (.int (own_seq p14 p15 p16 p4 p5 p6)) ∧ Fr n0 L ∧ h = h0
theorem rm13_46 (l : Launch) {Z : State} {a0 : Array Value} (hw : own_W Z a0) (a1 a2 : Addr) (p4 p5 p6 p10 p14 p15 p16 : Int32) (h0 : Heap) (n0 : Nat) (Z0 : n0 ≤ h0.size) (ha3 : a1 ≠ a2) (F7 : own_Str Z h0 a2 p4 p5 p6) (F11 : Sta Z h0 zs0 zs7 "Z" (.int p10)) (hc13 : ¬ (p10 = (0 : Int32))) (F17 : own_Str Z h0 a1 p14 p15 p16) (hc19 : ¬ (p14 = (0 : Int32))) (hc20 : p14 = (1 : Int32)) (hc23 : ¬ (p4 = (0 : Int32))) (hc24 : p4 = (1 : Int32)) (hc29 : ¬ (p15 < (0 : Int32))) (hc30 : p15 < (256 : Int32)) (hc31 : ¬ (p5 < (0 : Int32))) (hc32 : p5 < (256 : Int32)) (hc33 : p15 = p5) :
    own_MF l zm12 c_13 3 (some .boolean) (own_R 1 0 0 14) #[(.ref a1), (.ref a2)] Z h0 (Q13_46 Z a1 a2 p4 p5 p6 p10 p14 p15 p16 h0 n0) := by
  refine own_st (L := (lc33 a1 a2)) (own := zs0) (plainFor_of_name pn_0) rfl (fun m => ef_10 m a1 a2) fun p e s m below meth c s₁ Bd hml hZ hh hx hby hown hnm X0 e0 => ?_
  have N0 := Fr.nil n0
  obtain ⟨T8, X8, e8, st8⟩ := instY X0 hx hZ hown (ww hw 83 rfl) e0 (Ins.self (own_Str.E F7)) (g := (mkF m 8 (lc33 a1 a2) [(.ref a2)])) rfl rfl (hb hby d13_8)
  refine own_go (U' := T8.setTop (mkF m 11 (lc33 a1 a2) [(.int 1)])) (fun t k => oaloadN X0 hx hby d13_0 rfl rfl (oaloadN X0 hx hby d13_1 rfl rfl (oacmp (pc := 2) X0 hx hby d13_2 7 (same := false) rfl rfl (decide_eq_false fun q => ha3 (Value.ref.inj q)) (by decide) (oaloadN X0 hx hby d13_7 rfl rfl (st8 _ k))))) ?_
  obtain ⟨T9, X9, e9, st9⟩ := castY X8 hx hZ hown (ww hw 83 rfl) e8 (Ins.self (own_Str.E F7)) (g := (mkF m 15 (lc33 a1 a2) [(.ref a2)])) rfl rfl (hb hby d13_15)
  obtain ⟨T12, X12, e12, st12⟩ := getS2 X9 hx hZ hown (host := "") (Or.inl (ww hw 60 rfl)) Via.refl e9 F11 (g := (mkF m 19 (lc36 a1 a2 a2) [])) rfl (hb hby d13_19)
  refine own_go (U' := T12.setTop (mkF m 22 (lc36 a1 a2 a2) [(.int p10)])) (fun t k => oifN X8 hx hby d13_11 (by decide) (oaloadN X8 hx hby d13_14 rfl rfl (st9 _ (oastoreN X9 hx hby d13_18 (lc36 a1 a2 a2) rfl rfl (st12 _ k))))) ?_
  obtain ⟨bv18, k18, f18c, f18v, f18a⟩ := own_Str.at1 F17 hc20
  obtain ⟨T21, X21, e21, st21⟩ := getF X12 hx hZ hown (host := "") (Or.inl (ww hw 25 rfl)) Via.refl e12 f18c (g := (mkF m 26 (lc36 a1 a2 a2) [(.ref a1)])) rfl rfl (hb hby d13_26)
  obtain ⟨bv22, k22, f22c, f22v, f22a⟩ := own_Str.at1 F7 hc24
  obtain ⟨T25, X25, e25, st25⟩ := getF X21 hx hZ hown (host := "") (Or.inl (ww hw 25 rfl)) Via.refl e21 f22c (g := (mkF m 30 (lc36 a1 a2 a2) [(.ref a2), (.int 0)])) rfl rfl (hb hby d13_30)
  refine own_go (U' := T25.setTop (mkF m 33 (lc36 a1 a2 a2) [(.int 0), (.int 0)])) (fun t k => oifN X12 hx hby d13_22 ((if0 _ _).trans (feq hc13).1) (oaloadN X12 hx hby d13_25 rfl rfl (st21 _ (oaloadN X21 hx hby d13_29 rfl rfl (st25 _ k))))) ?_
  obtain ⟨T26, X26, e26, st26⟩ := getF X25 hx hZ hown (host := "") (Or.inl (ww hw 24 rfl)) Via.refl e25 f18v (g := (mkF m 37 (lc36 a1 a2 a2) [(.ref a1)])) rfl rfl (hb hby d13_37)
  obtain ⟨T27, X27, e27, st27⟩ := getF X26 hx hZ hown (host := "") (Or.inl (ww hw 24 rfl)) Via.refl e26 f22v (g := (mkF m 41 (lc36 a1 a2 a2) [(.ref a2), (.ref bv18)])) rfl rfl (hb hby d13_41)
  obtain ⟨_, T28, L28, X28, hQ28, st28⟩ := ocallS X27 hx hZ zm11 hown (ww hw 84 rfl) (ww hw 85 rfl) (by decide) (ww hw 87 rfl) (ww hw 86 rfl) e27 (rm14_34 l hw bv18 bv22 (p15.toInt8.toInt32) k18 (p5.toInt8.toInt32) k22 h0 n0 Z0 f18a f22a (congrArg (fun z : Int32 => z.toInt8.toInt32) hc33)) (st := [(.ref bv22), (.ref bv18)]) rfl 0 rfl (by decide) (pc := 44) (Ls := (lc36 a1 a2 a2)) hml rfl (lenOf pd_11 rfl) d13_44 hby
  obtain ⟨rfl, N28q, e28⟩ := hQ28
  have N34 := Fr.app N0 N28q
  refine own_go (U' := T28.setTop (mkF m 47 (lc36 a1 a2 a2) [(.int 1)])) (fun t k => oicN X25 hx hby d13_33 (by decide) (oaloadN X25 hx hby d13_36 rfl rfl (st26 _ (oaloadN X26 hx hby d13_40 rfl rfl (st27 _ (st28 _ k)))))) ?_
  refine own_go (U' := T28.setTop (mkF m 55 (lc36 a1 a2 a2) [(.int 1)])) (fun t k => oifN X28 hx hby d13_47 (by decide) (oiconst X28 hx hby d13_50 (ogoto (pc := 51) X28 hx hby d13_51 55 (by decide) k))) ?_
  obtain ⟨fs, hr, hrun, hended, hW, hsame⟩ := X28.leave (v := some (.int 1)) (fun h => by rw [Bd.returns] at h; cases h)
  refine own_out ⟨_, _, ?_, hrun, hended, _, _, rfl, ?_, ⟨_, rfl⟩, hW, hsame.mono (by decide) (by decide)⟩
  · exact retN X28 hx (t := .boolean) Bd.returns (by simp) (hb hby d13_55) hr
  · show Q13_46 Z a1 a2 p4 p5 p6 p10 p14 p15 p16 h0 n0 _ T28.heap _
    rw [e28]
    exact ⟨(congrArg (fun z => some (Value.int z)) (Eq.symm (own_seq_1 (Eq.trans hc20 (Eq.symm hc24)) (by rw [show p14 = _ from hc20]; decide) hc33 (by rw [show p14 = _ from hc20]; decide)))), N34, rfl⟩
def Q13_47 (Z : State) (a1 a2 : Addr) (p4 p5 p6 p10 p14 p15 p16 : Int32) (h0 : Heap) (n0 : Nat) (v : Option Value) (h : Heap) (L : List Loc) : Prop := v = some (.int (own_seq p14 p15 p16 p4 p5 p6)) ∧ Fr n0 L ∧ h = h0
theorem rm13_47 (l : Launch) {Z : State} {a0 : Array Value} (hw : own_W Z a0) (a1 a2 : Addr) (p4 p5 p6 p10 p14 p15 p16 : Int32) (h0 : Heap) (n0 : Nat) (Z0 : n0 ≤ h0.size) (ha3 : a1 ≠ a2) (F7 : own_Str Z h0 a2 p4 p5 p6) (F11 : Sta Z h0 zs0 zs7 "Z" (.int p10)) (hc13 : ¬ (p10 = (0 : Int32))) (F17 : own_Str Z h0 a1 p14 p15 p16) (hc19 : ¬ (p14 = (0 : Int32))) (hc20 : p14 = (1 : Int32)) (hc23 : ¬ (p4 = (0 : Int32))) (hc24 : p4 = (1 : Int32)) (hc29 : ¬ (p15 < (0 : Int32))) (hc30 : p15 < (256 : Int32)) (hc31 : ¬ (p5 < (0 : Int32))) (hc32 : p5 < (256 : Int32)) (hc33 : ¬ (p15 = p5)) :
    own_MF l zm12 c_13 3 (some .boolean) (own_R 1 0 0 14) #[(.ref a1), (.ref a2)] Z h0 (Q13_47 Z a1 a2 p4 p5 p6 p10 p14 p15 p16 h0 n0) := by
  refine own_st (L := (lc33 a1 a2)) (own := zs0) (plainFor_of_name pn_0) rfl (fun m => ef_10 m a1 a2) fun p e s m below meth c s₁ Bd hml hZ hh hx hby hown hnm X0 e0 => ?_
  have N0 := Fr.nil n0
  obtain ⟨T8, X8, e8, st8⟩ := instY X0 hx hZ hown (ww hw 83 rfl) e0 (Ins.self (own_Str.E F7)) (g := (mkF m 8 (lc33 a1 a2) [(.ref a2)])) rfl rfl (hb hby d13_8)
  refine own_go (U' := T8.setTop (mkF m 11 (lc33 a1 a2) [(.int 1)])) (fun t k => oaloadN X0 hx hby d13_0 rfl rfl (oaloadN X0 hx hby d13_1 rfl rfl (oacmp (pc := 2) X0 hx hby d13_2 7 (same := false) rfl rfl (decide_eq_false fun q => ha3 (Value.ref.inj q)) (by decide) (oaloadN X0 hx hby d13_7 rfl rfl (st8 _ k))))) ?_
  obtain ⟨T9, X9, e9, st9⟩ := castY X8 hx hZ hown (ww hw 83 rfl) e8 (Ins.self (own_Str.E F7)) (g := (mkF m 15 (lc33 a1 a2) [(.ref a2)])) rfl rfl (hb hby d13_15)
  obtain ⟨T12, X12, e12, st12⟩ := getS2 X9 hx hZ hown (host := "") (Or.inl (ww hw 60 rfl)) Via.refl e9 F11 (g := (mkF m 19 (lc36 a1 a2 a2) [])) rfl (hb hby d13_19)
  refine own_go (U' := T12.setTop (mkF m 22 (lc36 a1 a2 a2) [(.int p10)])) (fun t k => oifN X8 hx hby d13_11 (by decide) (oaloadN X8 hx hby d13_14 rfl rfl (st9 _ (oastoreN X9 hx hby d13_18 (lc36 a1 a2 a2) rfl rfl (st12 _ k))))) ?_
  obtain ⟨bv18, k18, f18c, f18v, f18a⟩ := own_Str.at1 F17 hc20
  obtain ⟨T21, X21, e21, st21⟩ := getF X12 hx hZ hown (host := "") (Or.inl (ww hw 25 rfl)) Via.refl e12 f18c (g := (mkF m 26 (lc36 a1 a2 a2) [(.ref a1)])) rfl rfl (hb hby d13_26)
  obtain ⟨bv22, k22, f22c, f22v, f22a⟩ := own_Str.at1 F7 hc24
  obtain ⟨T25, X25, e25, st25⟩ := getF X21 hx hZ hown (host := "") (Or.inl (ww hw 25 rfl)) Via.refl e21 f22c (g := (mkF m 30 (lc36 a1 a2 a2) [(.ref a2), (.int 0)])) rfl rfl (hb hby d13_30)
  refine own_go (U' := T25.setTop (mkF m 33 (lc36 a1 a2 a2) [(.int 0), (.int 0)])) (fun t k => oifN X12 hx hby d13_22 ((if0 _ _).trans (feq hc13).1) (oaloadN X12 hx hby d13_25 rfl rfl (st21 _ (oaloadN X21 hx hby d13_29 rfl rfl (st25 _ k))))) ?_
  obtain ⟨T26, X26, e26, st26⟩ := getF X25 hx hZ hown (host := "") (Or.inl (ww hw 24 rfl)) Via.refl e25 f18v (g := (mkF m 37 (lc36 a1 a2 a2) [(.ref a1)])) rfl rfl (hb hby d13_37)
  obtain ⟨T27, X27, e27, st27⟩ := getF X26 hx hZ hown (host := "") (Or.inl (ww hw 24 rfl)) Via.refl e26 f22v (g := (mkF m 41 (lc36 a1 a2 a2) [(.ref a2), (.ref bv18)])) rfl rfl (hb hby d13_41)
  obtain ⟨_, T28, L28, X28, hQ28, st28⟩ := ocallS X27 hx hZ zm11 hown (ww hw 84 rfl) (ww hw 85 rfl) (by decide) (ww hw 87 rfl) (ww hw 86 rfl) e27 (rm14_35 l hw bv18 bv22 (p15.toInt8.toInt32) k18 (p5.toInt8.toInt32) k22 h0 n0 Z0 f18a f22a (fun e => hc33 (own_i2bi hc29 hc30 hc31 hc32 e))) (st := [(.ref bv22), (.ref bv18)]) rfl 0 rfl (by decide) (pc := 44) (Ls := (lc36 a1 a2 a2)) hml rfl (lenOf pd_11 rfl) d13_44 hby
  obtain ⟨rfl, N28q, e28⟩ := hQ28
  have N34 := Fr.app N0 N28q
  refine own_go (U' := T28.setTop (mkF m 47 (lc36 a1 a2 a2) [(.int 0)])) (fun t k => oicN X25 hx hby d13_33 (by decide) (oaloadN X25 hx hby d13_36 rfl rfl (st26 _ (oaloadN X26 hx hby d13_40 rfl rfl (st27 _ (st28 _ k)))))) ?_
  refine own_go (U' := T28.setTop (mkF m 55 (lc36 a1 a2 a2) [(.int 0)])) (fun t k => oifY (pc := 47) X28 hx hby d13_47 54 (by decide) (by decide) (oiconst X28 hx hby d13_54 k)) ?_
  obtain ⟨fs, hr, hrun, hended, hW, hsame⟩ := X28.leave (v := some (.int 0)) (fun h => by rw [Bd.returns] at h; cases h)
  refine own_out ⟨_, _, ?_, hrun, hended, _, _, rfl, ?_, ⟨_, rfl⟩, hW, hsame.mono (by decide) (by decide)⟩
  · exact retN X28 hx (t := .boolean) Bd.returns (by simp) (hb hby d13_55) hr
  · show Q13_47 Z a1 a2 p4 p5 p6 p10 p14 p15 p16 h0 n0 _ T28.heap _
    rw [e28]
    exact ⟨(congrArg (fun z => some (Value.int z)) (Eq.symm (own_seq_a (Eq.trans hc20 (Eq.symm hc24)) (by rw [show p14 = _ from hc20]; decide) hc33))), N34, rfl⟩
def Q13_48 (Z : State) (a1 a2 : Addr) (p4 p5 p6 p10 p14 p15 p16 : Int32) (h0 : Heap) (n0 : Nat) (v : Option Value) (h : Heap) (L : List Loc) : Prop := v = some (.int (own_seq p14 p15 p16 p4 p5 p6)) ∧ Fr n0 L ∧ h = h0
theorem rm13_48 (l : Launch) {Z : State} {a0 : Array Value} (hw : own_W Z a0) (a1 a2 : Addr) (p4 p5 p6 p10 p14 p15 p16 : Int32) (h0 : Heap) (n0 : Nat) (Z0 : n0 ≤ h0.size) (ha3 : a1 ≠ a2) (F7 : own_Str Z h0 a2 p4 p5 p6) (F11 : Sta Z h0 zs0 zs7 "Z" (.int p10)) (hc13 : ¬ (p10 = (0 : Int32))) (F17 : own_Str Z h0 a1 p14 p15 p16) (hc19 : ¬ (p14 = (0 : Int32))) (hc20 : p14 = (1 : Int32)) (hc23 : ¬ (p4 = (0 : Int32))) (hc24 : ¬ (p4 = (1 : Int32))) (hc30 : ¬ (p4 < (0 : Int32))) (hc31 : p4 < (3 : Int32)) :
    own_MF l zm12 c_13 3 (some .boolean) (own_R 1 0 0 14) #[(.ref a1), (.ref a2)] Z h0 (Q13_48 Z a1 a2 p4 p5 p6 p10 p14 p15 p16 h0 n0) := by
  refine own_st (L := (lc33 a1 a2)) (own := zs0) (plainFor_of_name pn_0) rfl (fun m => ef_10 m a1 a2) fun p e s m below meth c s₁ Bd hml hZ hh hx hby hown hnm X0 e0 => ?_
  have N0 := Fr.nil n0
  obtain ⟨T8, X8, e8, st8⟩ := instY X0 hx hZ hown (ww hw 83 rfl) e0 (Ins.self (own_Str.E F7)) (g := (mkF m 8 (lc33 a1 a2) [(.ref a2)])) rfl rfl (hb hby d13_8)
  refine own_go (U' := T8.setTop (mkF m 11 (lc33 a1 a2) [(.int 1)])) (fun t k => oaloadN X0 hx hby d13_0 rfl rfl (oaloadN X0 hx hby d13_1 rfl rfl (oacmp (pc := 2) X0 hx hby d13_2 7 (same := false) rfl rfl (decide_eq_false fun q => ha3 (Value.ref.inj q)) (by decide) (oaloadN X0 hx hby d13_7 rfl rfl (st8 _ k))))) ?_
  obtain ⟨T9, X9, e9, st9⟩ := castY X8 hx hZ hown (ww hw 83 rfl) e8 (Ins.self (own_Str.E F7)) (g := (mkF m 15 (lc33 a1 a2) [(.ref a2)])) rfl rfl (hb hby d13_15)
  obtain ⟨T12, X12, e12, st12⟩ := getS2 X9 hx hZ hown (host := "") (Or.inl (ww hw 60 rfl)) Via.refl e9 F11 (g := (mkF m 19 (lc36 a1 a2 a2) [])) rfl (hb hby d13_19)
  refine own_go (U' := T12.setTop (mkF m 22 (lc36 a1 a2 a2) [(.int p10)])) (fun t k => oifN X8 hx hby d13_11 (by decide) (oaloadN X8 hx hby d13_14 rfl rfl (st9 _ (oastoreN X9 hx hby d13_18 (lc36 a1 a2 a2) rfl rfl (st12 _ k))))) ?_
  obtain ⟨bv18, k18, f18c, f18v, f18a⟩ := own_Str.at1 F17 hc20
  obtain ⟨T21, X21, e21, st21⟩ := getF X12 hx hZ hown (host := "") (Or.inl (ww hw 25 rfl)) Via.refl e12 f18c (g := (mkF m 26 (lc36 a1 a2 a2) [(.ref a1)])) rfl rfl (hb hby d13_26)
  obtain ⟨bv22, k22, f22c, f22v, f22a⟩ := own_Str.at2 F7 hc23 hc24
  obtain ⟨T25, X25, e25, st25⟩ := getF X21 hx hZ hown (host := "") (Or.inl (ww hw 25 rfl)) Via.refl e21 f22c (g := (mkF m 30 (lc36 a1 a2 a2) [(.ref a2), (.int 0)])) rfl rfl (hb hby d13_30)
  refine own_go (U' := T25.setTop (mkF m 33 (lc36 a1 a2 a2) [(.int 0), (.int 0)])) (fun t k => oifN X12 hx hby d13_22 ((if0 _ _).trans (feq hc13).1) (oaloadN X12 hx hby d13_25 rfl rfl (st21 _ (oaloadN X21 hx hby d13_29 rfl rfl (st25 _ k))))) ?_
  obtain ⟨T26, X26, e26, st26⟩ := getF X25 hx hZ hown (host := "") (Or.inl (ww hw 24 rfl)) Via.refl e25 f18v (g := (mkF m 37 (lc36 a1 a2 a2) [(.ref a1)])) rfl rfl (hb hby d13_37)
  obtain ⟨T27, X27, e27, st27⟩ := getF X26 hx hZ hown (host := "") (Or.inl (ww hw 24 rfl)) Via.refl e26 f22v (g := (mkF m 41 (lc36 a1 a2 a2) [(.ref a2), (.ref bv18)])) rfl rfl (hb hby d13_41)
  obtain ⟨_, T28, L28, X28, hQ28, st28⟩ := ocallS X27 hx hZ zm11 hown (ww hw 84 rfl) (ww hw 85 rfl) (by decide) (ww hw 87 rfl) (ww hw 86 rfl) e27 (rm14_36 l hw bv18 bv22 (p15.toInt8.toInt32) k18 (p5.toInt8.toInt32) (p6.toInt8.toInt32) k22 h0 n0 Z0 f18a f22a) (st := [(.ref bv22), (.ref bv18)]) rfl 0 rfl (by decide) (pc := 44) (Ls := (lc36 a1 a2 a2)) hml rfl (lenOf pd_11 rfl) d13_44 hby
  obtain ⟨rfl, N28q, e28⟩ := hQ28
  have N29 := Fr.app N0 N28q
  refine own_go (U' := T28.setTop (mkF m 47 (lc36 a1 a2 a2) [(.int 0)])) (fun t k => oicN X25 hx hby d13_33 (by decide) (oaloadN X25 hx hby d13_36 rfl rfl (st26 _ (oaloadN X26 hx hby d13_40 rfl rfl (st27 _ (st28 _ k)))))) ?_
  refine own_go (U' := T28.setTop (mkF m 55 (lc36 a1 a2 a2) [(.int 0)])) (fun t k => oifY (pc := 47) X28 hx hby d13_47 54 (by decide) (by decide) (oiconst X28 hx hby d13_54 k)) ?_
  obtain ⟨fs, hr, hrun, hended, hW, hsame⟩ := X28.leave (v := some (.int 0)) (fun h => by rw [Bd.returns] at h; cases h)
  refine own_out ⟨_, _, ?_, hrun, hended, _, _, rfl, ?_, ⟨_, rfl⟩, hW, hsame.mono (by decide) (by decide)⟩
  · exact retN X28 hx (t := .boolean) Bd.returns (by simp) (hb hby d13_55) hr
  · show Q13_48 Z a1 a2 p4 p5 p6 p10 p14 p15 p16 h0 n0 _ T28.heap _
    rw [e28]
    exact ⟨(congrArg (fun z => some (Value.int z)) (Eq.symm (own_seq_n (fun e => absurd (Eq.trans (Eq.symm hc20) (Eq.trans e (own_is2 hc30 hc31 hc23 hc24))) (by decide))))), N29, rfl⟩
def Q13_49 (Z : State) (a1 a2 : Addr) (p4 p5 p6 p10 p14 p15 p16 : Int32) (h0 : Heap) (n0 : Nat) (v : Option Value) (h : Heap) (L : List Loc) : Prop := v = some (.int (own_seq p14 p15 p16 p4 p5 p6)) ∧ Fr n0 L ∧ h = h0
theorem rm13_49 (l : Launch) {Z : State} {a0 : Array Value} (hw : own_W Z a0) (a1 a2 : Addr) (p4 p5 p6 p10 p14 p15 p16 : Int32) (h0 : Heap) (n0 : Nat) (Z0 : n0 ≤ h0.size) (ha3 : a1 ≠ a2) (F7 : own_Str Z h0 a2 p4 p5 p6) (F11 : Sta Z h0 zs0 zs7 "Z" (.int p10)) (hc13 : ¬ (p10 = (0 : Int32))) (F17 : own_Str Z h0 a1 p14 p15 p16) (hc19 : ¬ (p14 = (0 : Int32))) (hc20 : ¬ (p14 = (1 : Int32))) (hc23 : p4 = (0 : Int32)) (hc29 : ¬ (p14 < (0 : Int32))) (hc30 : p14 < (3 : Int32)) :
    own_MF l zm12 c_13 3 (some .boolean) (own_R 1 0 0 14) #[(.ref a1), (.ref a2)] Z h0 (Q13_49 Z a1 a2 p4 p5 p6 p10 p14 p15 p16 h0 n0) := by
  refine own_st (L := (lc33 a1 a2)) (own := zs0) (plainFor_of_name pn_0) rfl (fun m => ef_10 m a1 a2) fun p e s m below meth c s₁ Bd hml hZ hh hx hby hown hnm X0 e0 => ?_
  have N0 := Fr.nil n0
  obtain ⟨T8, X8, e8, st8⟩ := instY X0 hx hZ hown (ww hw 83 rfl) e0 (Ins.self (own_Str.E F7)) (g := (mkF m 8 (lc33 a1 a2) [(.ref a2)])) rfl rfl (hb hby d13_8)
  refine own_go (U' := T8.setTop (mkF m 11 (lc33 a1 a2) [(.int 1)])) (fun t k => oaloadN X0 hx hby d13_0 rfl rfl (oaloadN X0 hx hby d13_1 rfl rfl (oacmp (pc := 2) X0 hx hby d13_2 7 (same := false) rfl rfl (decide_eq_false fun q => ha3 (Value.ref.inj q)) (by decide) (oaloadN X0 hx hby d13_7 rfl rfl (st8 _ k))))) ?_
  obtain ⟨T9, X9, e9, st9⟩ := castY X8 hx hZ hown (ww hw 83 rfl) e8 (Ins.self (own_Str.E F7)) (g := (mkF m 15 (lc33 a1 a2) [(.ref a2)])) rfl rfl (hb hby d13_15)
  obtain ⟨T12, X12, e12, st12⟩ := getS2 X9 hx hZ hown (host := "") (Or.inl (ww hw 60 rfl)) Via.refl e9 F11 (g := (mkF m 19 (lc36 a1 a2 a2) [])) rfl (hb hby d13_19)
  refine own_go (U' := T12.setTop (mkF m 22 (lc36 a1 a2 a2) [(.int p10)])) (fun t k => oifN X8 hx hby d13_11 (by decide) (oaloadN X8 hx hby d13_14 rfl rfl (st9 _ (oastoreN X9 hx hby d13_18 (lc36 a1 a2 a2) rfl rfl (st12 _ k))))) ?_
  obtain ⟨bv18, k18, f18c, f18v, f18a⟩ := own_Str.at2 F17 hc19 hc20
  obtain ⟨T21, X21, e21, st21⟩ := getF X12 hx hZ hown (host := "") (Or.inl (ww hw 25 rfl)) Via.refl e12 f18c (g := (mkF m 26 (lc36 a1 a2 a2) [(.ref a1)])) rfl rfl (hb hby d13_26)
  obtain ⟨bv22, k22, f22c, f22v, f22a⟩ := own_Str.at0 F7 hc23
  obtain ⟨T24, X24, e24, st24⟩ := getF X21 hx hZ hown (host := "") (Or.inl (ww hw 25 rfl)) Via.refl e21 f22c (g := (mkF m 30 (lc36 a1 a2 a2) [(.ref a2), (.int 0)])) rfl rfl (hb hby d13_30)
  refine own_go (U' := T24.setTop (mkF m 33 (lc36 a1 a2 a2) [(.int 0), (.int 0)])) (fun t k => oifN X12 hx hby d13_22 ((if0 _ _).trans (feq hc13).1) (oaloadN X12 hx hby d13_25 rfl rfl (st21 _ (oaloadN X21 hx hby d13_29 rfl rfl (st24 _ k))))) ?_
  obtain ⟨T25, X25, e25, st25⟩ := getF X24 hx hZ hown (host := "") (Or.inl (ww hw 24 rfl)) Via.refl e24 f18v (g := (mkF m 37 (lc36 a1 a2 a2) [(.ref a1)])) rfl rfl (hb hby d13_37)
  obtain ⟨T26, X26, e26, st26⟩ := getF X25 hx hZ hown (host := "") (Or.inl (ww hw 24 rfl)) Via.refl e25 f22v (g := (mkF m 41 (lc36 a1 a2 a2) [(.ref a2), (.ref bv18)])) rfl rfl (hb hby d13_41)
  obtain ⟨_, T27, L27, X27, hQ27, st27⟩ := ocallS X26 hx hZ zm11 hown (ww hw 84 rfl) (ww hw 85 rfl) (by decide) (ww hw 87 rfl) (ww hw 86 rfl) e26 (rm14_37 l hw bv18 bv22 (p15.toInt8.toInt32) (p16.toInt8.toInt32) k18 k22 h0 n0 Z0 f18a f22a) (st := [(.ref bv22), (.ref bv18)]) rfl 0 rfl (by decide) (pc := 44) (Ls := (lc36 a1 a2 a2)) hml rfl (lenOf pd_11 rfl) d13_44 hby
  obtain ⟨rfl, N27q, e27⟩ := hQ27
  have N28 := Fr.app N0 N27q
  refine own_go (U' := T27.setTop (mkF m 47 (lc36 a1 a2 a2) [(.int 0)])) (fun t k => oicN X24 hx hby d13_33 (by decide) (oaloadN X24 hx hby d13_36 rfl rfl (st25 _ (oaloadN X25 hx hby d13_40 rfl rfl (st26 _ (st27 _ k)))))) ?_
  refine own_go (U' := T27.setTop (mkF m 55 (lc36 a1 a2 a2) [(.int 0)])) (fun t k => oifY (pc := 47) X27 hx hby d13_47 54 (by decide) (by decide) (oiconst X27 hx hby d13_54 k)) ?_
  obtain ⟨fs, hr, hrun, hended, hW, hsame⟩ := X27.leave (v := some (.int 0)) (fun h => by rw [Bd.returns] at h; cases h)
  refine own_out ⟨_, _, ?_, hrun, hended, _, _, rfl, ?_, ⟨_, rfl⟩, hW, hsame.mono (by decide) (by decide)⟩
  · exact retN X27 hx (t := .boolean) Bd.returns (by simp) (hb hby d13_55) hr
  · show Q13_49 Z a1 a2 p4 p5 p6 p10 p14 p15 p16 h0 n0 _ T27.heap _
    rw [e27]
    exact ⟨(congrArg (fun z => some (Value.int z)) (Eq.symm (own_seq_n (fun e => absurd (Eq.trans (Eq.symm (own_is2 hc29 hc30 hc19 hc20)) (Eq.trans e hc23)) (by decide))))), N28, rfl⟩
def Q13_50 (Z : State) (a1 a2 : Addr) (p4 p5 p6 p10 p14 p15 p16 : Int32) (h0 : Heap) (n0 : Nat) (v : Option Value) (h : Heap) (L : List Loc) : Prop := v = some (.int (own_seq p14 p15 p16 p4 p5 p6)) ∧ Fr n0 L ∧ h = h0
theorem rm13_50 (l : Launch) {Z : State} {a0 : Array Value} (hw : own_W Z a0) (a1 a2 : Addr) (p4 p5 p6 p10 p14 p15 p16 : Int32) (h0 : Heap) (n0 : Nat) (Z0 : n0 ≤ h0.size) (ha3 : a1 ≠ a2) (F7 : own_Str Z h0 a2 p4 p5 p6) (F11 : Sta Z h0 zs0 zs7 "Z" (.int p10)) (hc13 : ¬ (p10 = (0 : Int32))) (F17 : own_Str Z h0 a1 p14 p15 p16) (hc19 : ¬ (p14 = (0 : Int32))) (hc20 : ¬ (p14 = (1 : Int32))) (hc23 : ¬ (p4 = (0 : Int32))) (hc24 : p4 = (1 : Int32)) (hc30 : ¬ (p14 < (0 : Int32))) (hc31 : p14 < (3 : Int32)) :
    own_MF l zm12 c_13 3 (some .boolean) (own_R 1 0 0 14) #[(.ref a1), (.ref a2)] Z h0 (Q13_50 Z a1 a2 p4 p5 p6 p10 p14 p15 p16 h0 n0) := by
  refine own_st (L := (lc33 a1 a2)) (own := zs0) (plainFor_of_name pn_0) rfl (fun m => ef_10 m a1 a2) fun p e s m below meth c s₁ Bd hml hZ hh hx hby hown hnm X0 e0 => ?_
  have N0 := Fr.nil n0
  obtain ⟨T8, X8, e8, st8⟩ := instY X0 hx hZ hown (ww hw 83 rfl) e0 (Ins.self (own_Str.E F7)) (g := (mkF m 8 (lc33 a1 a2) [(.ref a2)])) rfl rfl (hb hby d13_8)
  refine own_go (U' := T8.setTop (mkF m 11 (lc33 a1 a2) [(.int 1)])) (fun t k => oaloadN X0 hx hby d13_0 rfl rfl (oaloadN X0 hx hby d13_1 rfl rfl (oacmp (pc := 2) X0 hx hby d13_2 7 (same := false) rfl rfl (decide_eq_false fun q => ha3 (Value.ref.inj q)) (by decide) (oaloadN X0 hx hby d13_7 rfl rfl (st8 _ k))))) ?_
  obtain ⟨T9, X9, e9, st9⟩ := castY X8 hx hZ hown (ww hw 83 rfl) e8 (Ins.self (own_Str.E F7)) (g := (mkF m 15 (lc33 a1 a2) [(.ref a2)])) rfl rfl (hb hby d13_15)
  obtain ⟨T12, X12, e12, st12⟩ := getS2 X9 hx hZ hown (host := "") (Or.inl (ww hw 60 rfl)) Via.refl e9 F11 (g := (mkF m 19 (lc36 a1 a2 a2) [])) rfl (hb hby d13_19)
  refine own_go (U' := T12.setTop (mkF m 22 (lc36 a1 a2 a2) [(.int p10)])) (fun t k => oifN X8 hx hby d13_11 (by decide) (oaloadN X8 hx hby d13_14 rfl rfl (st9 _ (oastoreN X9 hx hby d13_18 (lc36 a1 a2 a2) rfl rfl (st12 _ k))))) ?_
  obtain ⟨bv18, k18, f18c, f18v, f18a⟩ := own_Str.at2 F17 hc19 hc20
  obtain ⟨T21, X21, e21, st21⟩ := getF X12 hx hZ hown (host := "") (Or.inl (ww hw 25 rfl)) Via.refl e12 f18c (g := (mkF m 26 (lc36 a1 a2 a2) [(.ref a1)])) rfl rfl (hb hby d13_26)
  obtain ⟨bv22, k22, f22c, f22v, f22a⟩ := own_Str.at1 F7 hc24
  obtain ⟨T25, X25, e25, st25⟩ := getF X21 hx hZ hown (host := "") (Or.inl (ww hw 25 rfl)) Via.refl e21 f22c (g := (mkF m 30 (lc36 a1 a2 a2) [(.ref a2), (.int 0)])) rfl rfl (hb hby d13_30)
  refine own_go (U' := T25.setTop (mkF m 33 (lc36 a1 a2 a2) [(.int 0), (.int 0)])) (fun t k => oifN X12 hx hby d13_22 ((if0 _ _).trans (feq hc13).1) (oaloadN X12 hx hby d13_25 rfl rfl (st21 _ (oaloadN X21 hx hby d13_29 rfl rfl (st25 _ k))))) ?_
  obtain ⟨T26, X26, e26, st26⟩ := getF X25 hx hZ hown (host := "") (Or.inl (ww hw 24 rfl)) Via.refl e25 f18v (g := (mkF m 37 (lc36 a1 a2 a2) [(.ref a1)])) rfl rfl (hb hby d13_37)
  obtain ⟨T27, X27, e27, st27⟩ := getF X26 hx hZ hown (host := "") (Or.inl (ww hw 24 rfl)) Via.refl e26 f22v (g := (mkF m 41 (lc36 a1 a2 a2) [(.ref a2), (.ref bv18)])) rfl rfl (hb hby d13_41)
  obtain ⟨_, T28, L28, X28, hQ28, st28⟩ := ocallS X27 hx hZ zm11 hown (ww hw 84 rfl) (ww hw 85 rfl) (by decide) (ww hw 87 rfl) (ww hw 86 rfl) e27 (rm14_38 l hw bv18 bv22 (p15.toInt8.toInt32) (p16.toInt8.toInt32) k18 (p5.toInt8.toInt32) k22 h0 n0 Z0 f18a f22a) (st := [(.ref bv22), (.ref bv18)]) rfl 0 rfl (by decide) (pc := 44) (Ls := (lc36 a1 a2 a2)) hml rfl (lenOf pd_11 rfl) d13_44 hby
  obtain ⟨rfl, N28q, e28⟩ := hQ28
  have N29 := Fr.app N0 N28q
  refine own_go (U' := T28.setTop (mkF m 47 (lc36 a1 a2 a2) [(.int 0)])) (fun t k => oicN X25 hx hby d13_33 (by decide) (oaloadN X25 hx hby d13_36 rfl rfl (st26 _ (oaloadN X26 hx hby d13_40 rfl rfl (st27 _ (st28 _ k)))))) ?_
  refine own_go (U' := T28.setTop (mkF m 55 (lc36 a1 a2 a2) [(.int 0)])) (fun t k => oifY (pc := 47) X28 hx hby d13_47 54 (by decide) (by decide) (oiconst X28 hx hby d13_54 k)) ?_
  obtain ⟨fs, hr, hrun, hended, hW, hsame⟩ := X28.leave (v := some (.int 0)) (fun h => by rw [Bd.returns] at h; cases h)
  refine own_out ⟨_, _, ?_, hrun, hended, _, _, rfl, ?_, ⟨_, rfl⟩, hW, hsame.mono (by decide) (by decide)⟩
  · exact retN X28 hx (t := .boolean) Bd.returns (by simp) (hb hby d13_55) hr
  · show Q13_50 Z a1 a2 p4 p5 p6 p10 p14 p15 p16 h0 n0 _ T28.heap _
    rw [e28]
    exact ⟨(congrArg (fun z => some (Value.int z)) (Eq.symm (own_seq_n (fun e => absurd (Eq.trans (Eq.symm (own_is2 hc30 hc31 hc19 hc20)) (Eq.trans e hc24)) (by decide))))), N29, rfl⟩
def Q13_51 (Z : State) (a1 a2 : Addr) (p4 p5 p6 p10 p14 p15 p16 : Int32) (h0 : Heap) (n0 : Nat) (v : Option Value) (h : Heap) (L : List Loc) : Prop := v = some (.int (own_seq p14 p15 p16 p4 p5 p6)) ∧ Fr n0 L ∧ h = h0
theorem rm13_51 (l : Launch) {Z : State} {a0 : Array Value} (hw : own_W Z a0) (a1 a2 : Addr) (p4 p5 p6 p10 p14 p15 p16 : Int32) (h0 : Heap) (n0 : Nat) (Z0 : n0 ≤ h0.size) (ha3 : a1 ≠ a2) (F7 : own_Str Z h0 a2 p4 p5 p6) (F11 : Sta Z h0 zs0 zs7 "Z" (.int p10)) (hc13 : ¬ (p10 = (0 : Int32))) (F17 : own_Str Z h0 a1 p14 p15 p16) (hc19 : ¬ (p14 = (0 : Int32))) (hc20 : ¬ (p14 = (1 : Int32))) (hc23 : ¬ (p4 = (0 : Int32))) (hc24 : ¬ (p4 = (1 : Int32))) (hc29 : ¬ (p15 < (0 : Int32))) (hc30 : p15 < (256 : Int32)) (hc31 : ¬ (p5 < (0 : Int32))) (hc32 : p5 < (256 : Int32)) (hc33 : p15 = p5) (hc34 : ¬ (p16 < (0 : Int32))) (hc35 : p16 < (256 : Int32)) (hc36 : ¬ (p6 < (0 : Int32))) (hc37 : p6 < (256 : Int32)) (hc38 : p16 = p6) (hc40 : ¬ (p14 < (0 : Int32))) (hc41 : p14 < (3 : Int32)) (hc42 : ¬ (p4 < (0 : Int32))) (hc43 : p4 < (3 : Int32)) :
    own_MF l zm12 c_13 3 (some .boolean) (own_R 1 0 0 14) #[(.ref a1), (.ref a2)] Z h0 (Q13_51 Z a1 a2 p4 p5 p6 p10 p14 p15 p16 h0 n0) := by
  refine own_st (L := (lc33 a1 a2)) (own := zs0) (plainFor_of_name pn_0) rfl (fun m => ef_10 m a1 a2) fun p e s m below meth c s₁ Bd hml hZ hh hx hby hown hnm X0 e0 => ?_
  have N0 := Fr.nil n0
  obtain ⟨T8, X8, e8, st8⟩ := instY X0 hx hZ hown (ww hw 83 rfl) e0 (Ins.self (own_Str.E F7)) (g := (mkF m 8 (lc33 a1 a2) [(.ref a2)])) rfl rfl (hb hby d13_8)
  refine own_go (U' := T8.setTop (mkF m 11 (lc33 a1 a2) [(.int 1)])) (fun t k => oaloadN X0 hx hby d13_0 rfl rfl (oaloadN X0 hx hby d13_1 rfl rfl (oacmp (pc := 2) X0 hx hby d13_2 7 (same := false) rfl rfl (decide_eq_false fun q => ha3 (Value.ref.inj q)) (by decide) (oaloadN X0 hx hby d13_7 rfl rfl (st8 _ k))))) ?_
  obtain ⟨T9, X9, e9, st9⟩ := castY X8 hx hZ hown (ww hw 83 rfl) e8 (Ins.self (own_Str.E F7)) (g := (mkF m 15 (lc33 a1 a2) [(.ref a2)])) rfl rfl (hb hby d13_15)
  obtain ⟨T12, X12, e12, st12⟩ := getS2 X9 hx hZ hown (host := "") (Or.inl (ww hw 60 rfl)) Via.refl e9 F11 (g := (mkF m 19 (lc36 a1 a2 a2) [])) rfl (hb hby d13_19)
  refine own_go (U' := T12.setTop (mkF m 22 (lc36 a1 a2 a2) [(.int p10)])) (fun t k => oifN X8 hx hby d13_11 (by decide) (oaloadN X8 hx hby d13_14 rfl rfl (st9 _ (oastoreN X9 hx hby d13_18 (lc36 a1 a2 a2) rfl rfl (st12 _ k))))) ?_
  obtain ⟨bv18, k18, f18c, f18v, f18a⟩ := own_Str.at2 F17 hc19 hc20
  obtain ⟨T21, X21, e21, st21⟩ := getF X12 hx hZ hown (host := "") (Or.inl (ww hw 25 rfl)) Via.refl e12 f18c (g := (mkF m 26 (lc36 a1 a2 a2) [(.ref a1)])) rfl rfl (hb hby d13_26)
  obtain ⟨bv22, k22, f22c, f22v, f22a⟩ := own_Str.at2 F7 hc23 hc24
  obtain ⟨T25, X25, e25, st25⟩ := getF X21 hx hZ hown (host := "") (Or.inl (ww hw 25 rfl)) Via.refl e21 f22c (g := (mkF m 30 (lc36 a1 a2 a2) [(.ref a2), (.int 0)])) rfl rfl (hb hby d13_30)
  refine own_go (U' := T25.setTop (mkF m 33 (lc36 a1 a2 a2) [(.int 0), (.int 0)])) (fun t k => oifN X12 hx hby d13_22 ((if0 _ _).trans (feq hc13).1) (oaloadN X12 hx hby d13_25 rfl rfl (st21 _ (oaloadN X21 hx hby d13_29 rfl rfl (st25 _ k))))) ?_
  obtain ⟨T26, X26, e26, st26⟩ := getF X25 hx hZ hown (host := "") (Or.inl (ww hw 24 rfl)) Via.refl e25 f18v (g := (mkF m 37 (lc36 a1 a2 a2) [(.ref a1)])) rfl rfl (hb hby d13_37)
  obtain ⟨T27, X27, e27, st27⟩ := getF X26 hx hZ hown (host := "") (Or.inl (ww hw 24 rfl)) Via.refl e26 f22v (g := (mkF m 41 (lc36 a1 a2 a2) [(.ref a2), (.ref bv18)])) rfl rfl (hb hby d13_41)
  obtain ⟨_, T28, L28, X28, hQ28, st28⟩ := ocallS X27 hx hZ zm11 hown (ww hw 84 rfl) (ww hw 85 rfl) (by decide) (ww hw 87 rfl) (ww hw 86 rfl) e27 (rm14_39 l hw bv18 bv22 (p15.toInt8.toInt32) (p16.toInt8.toInt32) k18 (p5.toInt8.toInt32) (p6.toInt8.toInt32) k22 h0 n0 Z0 f18a f22a (congrArg (fun z : Int32 => z.toInt8.toInt32) hc33) (congrArg (fun z : Int32 => z.toInt8.toInt32) hc38)) (st := [(.ref bv22), (.ref bv18)]) rfl 0 rfl (by decide) (pc := 44) (Ls := (lc36 a1 a2 a2)) hml rfl (lenOf pd_11 rfl) d13_44 hby
  obtain ⟨rfl, N28q, e28⟩ := hQ28
  have N39 := Fr.app N0 N28q
  refine own_go (U' := T28.setTop (mkF m 47 (lc36 a1 a2 a2) [(.int 1)])) (fun t k => oicN X25 hx hby d13_33 (by decide) (oaloadN X25 hx hby d13_36 rfl rfl (st26 _ (oaloadN X26 hx hby d13_40 rfl rfl (st27 _ (st28 _ k)))))) ?_
  refine own_go (U' := T28.setTop (mkF m 55 (lc36 a1 a2 a2) [(.int 1)])) (fun t k => oifN X28 hx hby d13_47 (by decide) (oiconst X28 hx hby d13_50 (ogoto (pc := 51) X28 hx hby d13_51 55 (by decide) k))) ?_
  obtain ⟨fs, hr, hrun, hended, hW, hsame⟩ := X28.leave (v := some (.int 1)) (fun h => by rw [Bd.returns] at h; cases h)
  refine own_out ⟨_, _, ?_, hrun, hended, _, _, rfl, ?_, ⟨_, rfl⟩, hW, hsame.mono (by decide) (by decide)⟩
  · exact retN X28 hx (t := .boolean) Bd.returns (by simp) (hb hby d13_55) hr
  · show Q13_51 Z a1 a2 p4 p5 p6 p10 p14 p15 p16 h0 n0 _ T28.heap _
    rw [e28]
    exact ⟨(congrArg (fun z => some (Value.int z)) (Eq.symm (own_seq_2 (Eq.trans (own_is2 hc40 hc41 hc19 hc20) (Eq.symm (own_is2 hc42 hc43 hc23 hc24))) (by rw [show p14 = _ from (own_is2 hc40 hc41 hc19 hc20)]; decide) hc33 (by rw [show p14 = _ from (own_is2 hc40 hc41 hc19 hc20)]; decide) hc38))), N39, rfl⟩
def Q13_52 (Z : State) (a1 a2 : Addr) (p4 p5 p6 p10 p14 p15 p16 : Int32) (h0 : Heap) (n0 : Nat) (v : Option Value) (h : Heap) (L : List Loc) : Prop := v = some (.int (own_seq p14 p15 p16 p4 p5 p6)) ∧ Fr n0 L ∧ h = h0
theorem rm13_52 (l : Launch) {Z : State} {a0 : Array Value} (hw : own_W Z a0) (a1 a2 : Addr) (p4 p5 p6 p10 p14 p15 p16 : Int32) (h0 : Heap) (n0 : Nat) (Z0 : n0 ≤ h0.size) (ha3 : a1 ≠ a2) (F7 : own_Str Z h0 a2 p4 p5 p6) (F11 : Sta Z h0 zs0 zs7 "Z" (.int p10)) (hc13 : ¬ (p10 = (0 : Int32))) (F17 : own_Str Z h0 a1 p14 p15 p16) (hc19 : ¬ (p14 = (0 : Int32))) (hc20 : ¬ (p14 = (1 : Int32))) (hc23 : ¬ (p4 = (0 : Int32))) (hc24 : ¬ (p4 = (1 : Int32))) (hc29 : ¬ (p15 < (0 : Int32))) (hc30 : p15 < (256 : Int32)) (hc31 : ¬ (p5 < (0 : Int32))) (hc32 : p5 < (256 : Int32)) (hc33 : p15 = p5) (hc34 : ¬ (p16 < (0 : Int32))) (hc35 : p16 < (256 : Int32)) (hc36 : ¬ (p6 < (0 : Int32))) (hc37 : p6 < (256 : Int32)) (hc38 : ¬ (p16 = p6)) (hc40 : ¬ (p14 < (0 : Int32))) (hc41 : p14 < (3 : Int32)) (hc42 : ¬ (p4 < (0 : Int32))) (hc43 : p4 < (3 : Int32)) :
    own_MF l zm12 c_13 3 (some .boolean) (own_R 1 0 0 14) #[(.ref a1), (.ref a2)] Z h0 (Q13_52 Z a1 a2 p4 p5 p6 p10 p14 p15 p16 h0 n0) := by
  refine own_st (L := (lc33 a1 a2)) (own := zs0) (plainFor_of_name pn_0) rfl (fun m => ef_10 m a1 a2) fun p e s m below meth c s₁ Bd hml hZ hh hx hby hown hnm X0 e0 => ?_
  have N0 := Fr.nil n0
  obtain ⟨T8, X8, e8, st8⟩ := instY X0 hx hZ hown (ww hw 83 rfl) e0 (Ins.self (own_Str.E F7)) (g := (mkF m 8 (lc33 a1 a2) [(.ref a2)])) rfl rfl (hb hby d13_8)
  refine own_go (U' := T8.setTop (mkF m 11 (lc33 a1 a2) [(.int 1)])) (fun t k => oaloadN X0 hx hby d13_0 rfl rfl (oaloadN X0 hx hby d13_1 rfl rfl (oacmp (pc := 2) X0 hx hby d13_2 7 (same := false) rfl rfl (decide_eq_false fun q => ha3 (Value.ref.inj q)) (by decide) (oaloadN X0 hx hby d13_7 rfl rfl (st8 _ k))))) ?_
  obtain ⟨T9, X9, e9, st9⟩ := castY X8 hx hZ hown (ww hw 83 rfl) e8 (Ins.self (own_Str.E F7)) (g := (mkF m 15 (lc33 a1 a2) [(.ref a2)])) rfl rfl (hb hby d13_15)
  obtain ⟨T12, X12, e12, st12⟩ := getS2 X9 hx hZ hown (host := "") (Or.inl (ww hw 60 rfl)) Via.refl e9 F11 (g := (mkF m 19 (lc36 a1 a2 a2) [])) rfl (hb hby d13_19)
  refine own_go (U' := T12.setTop (mkF m 22 (lc36 a1 a2 a2) [(.int p10)])) (fun t k => oifN X8 hx hby d13_11 (by decide) (oaloadN X8 hx hby d13_14 rfl rfl (st9 _ (oastoreN X9 hx hby d13_18 (lc36 a1 a2 a2) rfl rfl (st12 _ k))))) ?_
  obtain ⟨bv18, k18, f18c, f18v, f18a⟩ := own_Str.at2 F17 hc19 hc20
  obtain ⟨T21, X21, e21, st21⟩ := getF X12 hx hZ hown (host := "") (Or.inl (ww hw 25 rfl)) Via.refl e12 f18c (g := (mkF m 26 (lc36 a1 a2 a2) [(.ref a1)])) rfl rfl (hb hby d13_26)
  obtain ⟨bv22, k22, f22c, f22v, f22a⟩ := own_Str.at2 F7 hc23 hc24
  obtain ⟨T25, X25, e25, st25⟩ := getF X21 hx hZ hown (host := "") (Or.inl (ww hw 25 rfl)) Via.refl e21 f22c (g := (mkF m 30 (lc36 a1 a2 a2) [(.ref a2), (.int 0)])) rfl rfl (hb hby d13_30)
  refine own_go (U' := T25.setTop (mkF m 33 (lc36 a1 a2 a2) [(.int 0), (.int 0)])) (fun t k => oifN X12 hx hby d13_22 ((if0 _ _).trans (feq hc13).1) (oaloadN X12 hx hby d13_25 rfl rfl (st21 _ (oaloadN X21 hx hby d13_29 rfl rfl (st25 _ k))))) ?_
  obtain ⟨T26, X26, e26, st26⟩ := getF X25 hx hZ hown (host := "") (Or.inl (ww hw 24 rfl)) Via.refl e25 f18v (g := (mkF m 37 (lc36 a1 a2 a2) [(.ref a1)])) rfl rfl (hb hby d13_37)
  obtain ⟨T27, X27, e27, st27⟩ := getF X26 hx hZ hown (host := "") (Or.inl (ww hw 24 rfl)) Via.refl e26 f22v (g := (mkF m 41 (lc36 a1 a2 a2) [(.ref a2), (.ref bv18)])) rfl rfl (hb hby d13_41)
  obtain ⟨_, T28, L28, X28, hQ28, st28⟩ := ocallS X27 hx hZ zm11 hown (ww hw 84 rfl) (ww hw 85 rfl) (by decide) (ww hw 87 rfl) (ww hw 86 rfl) e27 (rm14_40 l hw bv18 bv22 (p15.toInt8.toInt32) (p16.toInt8.toInt32) k18 (p5.toInt8.toInt32) (p6.toInt8.toInt32) k22 h0 n0 Z0 f18a f22a (congrArg (fun z : Int32 => z.toInt8.toInt32) hc33) (fun e => hc38 (own_i2bi hc34 hc35 hc36 hc37 e))) (st := [(.ref bv22), (.ref bv18)]) rfl 0 rfl (by decide) (pc := 44) (Ls := (lc36 a1 a2 a2)) hml rfl (lenOf pd_11 rfl) d13_44 hby
  obtain ⟨rfl, N28q, e28⟩ := hQ28
  have N39 := Fr.app N0 N28q
  refine own_go (U' := T28.setTop (mkF m 47 (lc36 a1 a2 a2) [(.int 0)])) (fun t k => oicN X25 hx hby d13_33 (by decide) (oaloadN X25 hx hby d13_36 rfl rfl (st26 _ (oaloadN X26 hx hby d13_40 rfl rfl (st27 _ (st28 _ k)))))) ?_
  refine own_go (U' := T28.setTop (mkF m 55 (lc36 a1 a2 a2) [(.int 0)])) (fun t k => oifY (pc := 47) X28 hx hby d13_47 54 (by decide) (by decide) (oiconst X28 hx hby d13_54 k)) ?_
  obtain ⟨fs, hr, hrun, hended, hW, hsame⟩ := X28.leave (v := some (.int 0)) (fun h => by rw [Bd.returns] at h; cases h)
  refine own_out ⟨_, _, ?_, hrun, hended, _, _, rfl, ?_, ⟨_, rfl⟩, hW, hsame.mono (by decide) (by decide)⟩
  · exact retN X28 hx (t := .boolean) Bd.returns (by simp) (hb hby d13_55) hr
  · show Q13_52 Z a1 a2 p4 p5 p6 p10 p14 p15 p16 h0 n0 _ T28.heap _
    rw [e28]
    exact ⟨(congrArg (fun z => some (Value.int z)) (Eq.symm (own_seq_b (Eq.trans (own_is2 hc40 hc41 hc19 hc20) (Eq.symm (own_is2 hc42 hc43 hc23 hc24))) (by rw [show p14 = _ from (own_is2 hc40 hc41 hc19 hc20)]; decide) hc33 (by rw [show p14 = _ from (own_is2 hc40 hc41 hc19 hc20)]; decide) hc38))), N39, rfl⟩
def Q13_53 (Z : State) (a1 a2 : Addr) (p4 p5 p6 p10 p14 p15 p16 : Int32) (h0 : Heap) (n0 : Nat) (v : Option Value) (h : Heap) (L : List Loc) : Prop := v = some (.int (own_seq p14 p15 p16 p4 p5 p6)) ∧ Fr n0 L ∧ h = h0
theorem rm13_53 (l : Launch) {Z : State} {a0 : Array Value} (hw : own_W Z a0) (a1 a2 : Addr) (p4 p5 p6 p10 p14 p15 p16 : Int32) (h0 : Heap) (n0 : Nat) (Z0 : n0 ≤ h0.size) (ha3 : a1 ≠ a2) (F7 : own_Str Z h0 a2 p4 p5 p6) (F11 : Sta Z h0 zs0 zs7 "Z" (.int p10)) (hc13 : ¬ (p10 = (0 : Int32))) (F17 : own_Str Z h0 a1 p14 p15 p16) (hc19 : ¬ (p14 = (0 : Int32))) (hc20 : ¬ (p14 = (1 : Int32))) (hc23 : ¬ (p4 = (0 : Int32))) (hc24 : ¬ (p4 = (1 : Int32))) (hc29 : ¬ (p15 < (0 : Int32))) (hc30 : p15 < (256 : Int32)) (hc31 : ¬ (p5 < (0 : Int32))) (hc32 : p5 < (256 : Int32)) (hc33 : ¬ (p15 = p5)) (hc35 : ¬ (p14 < (0 : Int32))) (hc36 : p14 < (3 : Int32)) (hc37 : ¬ (p4 < (0 : Int32))) (hc38 : p4 < (3 : Int32)) :
    own_MF l zm12 c_13 3 (some .boolean) (own_R 1 0 0 14) #[(.ref a1), (.ref a2)] Z h0 (Q13_53 Z a1 a2 p4 p5 p6 p10 p14 p15 p16 h0 n0) := by
  refine own_st (L := (lc33 a1 a2)) (own := zs0) (plainFor_of_name pn_0) rfl (fun m => ef_10 m a1 a2) fun p e s m below meth c s₁ Bd hml hZ hh hx hby hown hnm X0 e0 => ?_
  have N0 := Fr.nil n0
  obtain ⟨T8, X8, e8, st8⟩ := instY X0 hx hZ hown (ww hw 83 rfl) e0 (Ins.self (own_Str.E F7)) (g := (mkF m 8 (lc33 a1 a2) [(.ref a2)])) rfl rfl (hb hby d13_8)
  refine own_go (U' := T8.setTop (mkF m 11 (lc33 a1 a2) [(.int 1)])) (fun t k => oaloadN X0 hx hby d13_0 rfl rfl (oaloadN X0 hx hby d13_1 rfl rfl (oacmp (pc := 2) X0 hx hby d13_2 7 (same := false) rfl rfl (decide_eq_false fun q => ha3 (Value.ref.inj q)) (by decide) (oaloadN X0 hx hby d13_7 rfl rfl (st8 _ k))))) ?_
  obtain ⟨T9, X9, e9, st9⟩ := castY X8 hx hZ hown (ww hw 83 rfl) e8 (Ins.self (own_Str.E F7)) (g := (mkF m 15 (lc33 a1 a2) [(.ref a2)])) rfl rfl (hb hby d13_15)
  obtain ⟨T12, X12, e12, st12⟩ := getS2 X9 hx hZ hown (host := "") (Or.inl (ww hw 60 rfl)) Via.refl e9 F11 (g := (mkF m 19 (lc36 a1 a2 a2) [])) rfl (hb hby d13_19)
  refine own_go (U' := T12.setTop (mkF m 22 (lc36 a1 a2 a2) [(.int p10)])) (fun t k => oifN X8 hx hby d13_11 (by decide) (oaloadN X8 hx hby d13_14 rfl rfl (st9 _ (oastoreN X9 hx hby d13_18 (lc36 a1 a2 a2) rfl rfl (st12 _ k))))) ?_
  obtain ⟨bv18, k18, f18c, f18v, f18a⟩ := own_Str.at2 F17 hc19 hc20
  obtain ⟨T21, X21, e21, st21⟩ := getF X12 hx hZ hown (host := "") (Or.inl (ww hw 25 rfl)) Via.refl e12 f18c (g := (mkF m 26 (lc36 a1 a2 a2) [(.ref a1)])) rfl rfl (hb hby d13_26)
  obtain ⟨bv22, k22, f22c, f22v, f22a⟩ := own_Str.at2 F7 hc23 hc24
  obtain ⟨T25, X25, e25, st25⟩ := getF X21 hx hZ hown (host := "") (Or.inl (ww hw 25 rfl)) Via.refl e21 f22c (g := (mkF m 30 (lc36 a1 a2 a2) [(.ref a2), (.int 0)])) rfl rfl (hb hby d13_30)
  refine own_go (U' := T25.setTop (mkF m 33 (lc36 a1 a2 a2) [(.int 0), (.int 0)])) (fun t k => oifN X12 hx hby d13_22 ((if0 _ _).trans (feq hc13).1) (oaloadN X12 hx hby d13_25 rfl rfl (st21 _ (oaloadN X21 hx hby d13_29 rfl rfl (st25 _ k))))) ?_
  obtain ⟨T26, X26, e26, st26⟩ := getF X25 hx hZ hown (host := "") (Or.inl (ww hw 24 rfl)) Via.refl e25 f18v (g := (mkF m 37 (lc36 a1 a2 a2) [(.ref a1)])) rfl rfl (hb hby d13_37)
  obtain ⟨T27, X27, e27, st27⟩ := getF X26 hx hZ hown (host := "") (Or.inl (ww hw 24 rfl)) Via.refl e26 f22v (g := (mkF m 41 (lc36 a1 a2 a2) [(.ref a2), (.ref bv18)])) rfl rfl (hb hby d13_41)
  obtain ⟨_, T28, L28, X28, hQ28, st28⟩ := ocallS X27 hx hZ zm11 hown (ww hw 84 rfl) (ww hw 85 rfl) (by decide) (ww hw 87 rfl) (ww hw 86 rfl) e27 (rm14_41 l hw bv18 bv22 (p15.toInt8.toInt32) (p16.toInt8.toInt32) k18 (p5.toInt8.toInt32) (p6.toInt8.toInt32) k22 h0 n0 Z0 f18a f22a (fun e => hc33 (own_i2bi hc29 hc30 hc31 hc32 e))) (st := [(.ref bv22), (.ref bv18)]) rfl 0 rfl (by decide) (pc := 44) (Ls := (lc36 a1 a2 a2)) hml rfl (lenOf pd_11 rfl) d13_44 hby
  obtain ⟨rfl, N28q, e28⟩ := hQ28
  have N34 := Fr.app N0 N28q
  refine own_go (U' := T28.setTop (mkF m 47 (lc36 a1 a2 a2) [(.int 0)])) (fun t k => oicN X25 hx hby d13_33 (by decide) (oaloadN X25 hx hby d13_36 rfl rfl (st26 _ (oaloadN X26 hx hby d13_40 rfl rfl (st27 _ (st28 _ k)))))) ?_
  refine own_go (U' := T28.setTop (mkF m 55 (lc36 a1 a2 a2) [(.int 0)])) (fun t k => oifY (pc := 47) X28 hx hby d13_47 54 (by decide) (by decide) (oiconst X28 hx hby d13_54 k)) ?_
  obtain ⟨fs, hr, hrun, hended, hW, hsame⟩ := X28.leave (v := some (.int 0)) (fun h => by rw [Bd.returns] at h; cases h)
  refine own_out ⟨_, _, ?_, hrun, hended, _, _, rfl, ?_, ⟨_, rfl⟩, hW, hsame.mono (by decide) (by decide)⟩
  · exact retN X28 hx (t := .boolean) Bd.returns (by simp) (hb hby d13_55) hr
  · show Q13_53 Z a1 a2 p4 p5 p6 p10 p14 p15 p16 h0 n0 _ T28.heap _
    rw [e28]
    exact ⟨(congrArg (fun z => some (Value.int z)) (Eq.symm (own_seq_a (Eq.trans (own_is2 hc35 hc36 hc19 hc20) (Eq.symm (own_is2 hc37 hc38 hc23 hc24))) (by rw [show p14 = _ from (own_is2 hc35 hc36 hc19 hc20)]; decide) hc33))), N34, rfl⟩
def Qmg13_54 (Z : State) (a1 a2 : Addr) (p4 p5 p6 p8 p11 p12 p13 : Int32) (h0 : Heap) (n0 : Nat) (v : Option Value) (h : Heap) (L : List Loc) : Prop := v = some (.int (own_seq p11 p12 p13 p4 p5 p6)) ∧ Fr n0 L ∧ h = h0
theorem mg13_54 (l : Launch) {Z : State} {a0 : Array Value} (hw : own_W Z a0) (a1 a2 : Addr) (p4 p5 p6 p8 p11 p12 p13 : Int32) (h0 : Heap) (n0 : Nat) (Z0 : n0 ≤ h0.size) (ha3 : a1 ≠ a2) (F7 : own_Str Z h0 a2 p4 p5 p6) (F9 : Sta Z h0 zs0 zs7 "Z" (.int p8)) (hc10 : ¬ (p8 = (0 : Int32))) (F14 : own_Str Z h0 a1 p11 p12 p13) (hc15 : ¬ (p12 < (0 : Int32))) (hc16 : p12 < (256 : Int32)) (hc17 : ¬ (p5 < (0 : Int32))) (hc18 : p5 < (256 : Int32)) (hc19 : ¬ (p13 < (0 : Int32))) (hc20 : p13 < (256 : Int32)) (hc21 : ¬ (p6 < (0 : Int32))) (hc22 : p6 < (256 : Int32)) (hc23 : ¬ (p4 < (0 : Int32))) (hc24 : p4 < (3 : Int32)) (hc25 : ¬ (p11 < (0 : Int32))) (hc26 : p11 < (3 : Int32)) :
    own_MF l zm12 c_13 3 (some .boolean) (own_R 1 0 0 14) #[(.ref a1), (.ref a2)] Z h0 (Qmg13_54 Z a1 a2 p4 p5 p6 p8 p11 p12 p13 h0 n0) := by
  by_cases hm1 : p11 = (0 : Int32)
  · by_cases hm2 : p4 = (0 : Int32)
    · exact rm13_42 l hw a1 a2 p4 p5 p6 p8 p11 p12 p13 h0 n0 Z0 ha3 F7 F9 hc10 F14 hm1 hm2
    · by_cases hm3 : p4 = (1 : Int32)
      · exact rm13_43 l hw a1 a2 p4 p5 p6 p8 p11 p12 p13 h0 n0 Z0 ha3 F7 F9 hc10 F14 hm1 hm2 hm3
      · exact rm13_44 l hw a1 a2 p4 p5 p6 p8 p11 p12 p13 h0 n0 Z0 ha3 F7 F9 hc10 F14 hm1 hm2 hm3 hc23 hc24
  · by_cases hm4 : p11 = (1 : Int32)
    · by_cases hm5 : p4 = (0 : Int32)
      · exact rm13_45 l hw a1 a2 p4 p5 p6 p8 p11 p12 p13 h0 n0 Z0 ha3 F7 F9 hc10 F14 hm1 hm4 hm5
      · by_cases hm6 : p4 = (1 : Int32)
        · by_cases hm7 : p12 = p5
          · exact rm13_46 l hw a1 a2 p4 p5 p6 p8 p11 p12 p13 h0 n0 Z0 ha3 F7 F9 hc10 F14 hm1 hm4 hm5 hm6 hc15 hc16 hc17 hc18 hm7
          · exact rm13_47 l hw a1 a2 p4 p5 p6 p8 p11 p12 p13 h0 n0 Z0 ha3 F7 F9 hc10 F14 hm1 hm4 hm5 hm6 hc15 hc16 hc17 hc18 hm7
        · exact rm13_48 l hw a1 a2 p4 p5 p6 p8 p11 p12 p13 h0 n0 Z0 ha3 F7 F9 hc10 F14 hm1 hm4 hm5 hm6 hc23 hc24
    · by_cases hm8 : p4 = (0 : Int32)
      · exact rm13_49 l hw a1 a2 p4 p5 p6 p8 p11 p12 p13 h0 n0 Z0 ha3 F7 F9 hc10 F14 hm1 hm4 hm8 hc25 hc26
      · by_cases hm9 : p4 = (1 : Int32)
        · exact rm13_50 l hw a1 a2 p4 p5 p6 p8 p11 p12 p13 h0 n0 Z0 ha3 F7 F9 hc10 F14 hm1 hm4 hm8 hm9 hc25 hc26
        · by_cases hm10 : p12 = p5
          · by_cases hm11 : p13 = p6
            · exact rm13_51 l hw a1 a2 p4 p5 p6 p8 p11 p12 p13 h0 n0 Z0 ha3 F7 F9 hc10 F14 hm1 hm4 hm8 hm9 hc15 hc16 hc17 hc18 hm10 hc19 hc20 hc21 hc22 hm11 hc25 hc26 hc23 hc24
            · exact rm13_52 l hw a1 a2 p4 p5 p6 p8 p11 p12 p13 h0 n0 Z0 ha3 F7 F9 hc10 F14 hm1 hm4 hm8 hm9 hc15 hc16 hc17 hc18 hm10 hc19 hc20 hc21 hc22 hm11 hc25 hc26 hc23 hc24
          · exact rm13_53 l hw a1 a2 p4 p5 p6 p8 p11 p12 p13 h0 n0 Z0 ha3 F7 F9 hc10 F14 hm1 hm4 hm8 hm9 hc15 hc16 hc17 hc18 hm10 hc25 hc26 hc23 hc24
def Q8_55 (Z : State) (a1 a2 a6 a9 a13 a16 : Addr) (p20 p21 p22 p25 p26 p27 p29 : Int32) (h0 : Heap) (n0 : Nat) (v : Option Value) (h : Heap) (L : List Loc) : Prop := v = some (.int 0) ∧ Fr n0 L ∧ h = h0
theorem rm8_55 (l : Launch) {Z : State} {a0 : Array Value} (hw : own_W Z a0) (a1 a2 a6 a9 a13 a16 : Addr) (p20 p21 p22 p25 p26 p27 p29 : Int32) (h0 : Heap) (n0 : Nat) (Z0 : n0 ≤ h0.size) (F3 : Exa Z h0 a2 zs17) (F7 : Fld Z h0 a1 zs17 "kind" zs11 (.ref a6)) (F10 : Fld Z h0 a2 zs17 "kind" zs11 (.ref a9)) (ha12 : a6 = a9) (F14 : Fld Z h0 a1 zs17 "id" zs18 (.ref a13)) (F17 : Fld Z h0 a2 zs17 "id" zs18 (.ref a16)) (F23 : own_Str Z h0 a13 p20 p21 p22) (ha24 : a13 ≠ a16) (F28 : own_Str Z h0 a16 p25 p26 p27) (F30 : Sta Z h0 zs0 zs7 "Z" (.int p29)) (hc31 : ¬ (p29 = (0 : Int32))) (hc32 : ¬ (p21 < (0 : Int32))) (hc33 : p21 < (256 : Int32)) (hc34 : ¬ (p26 < (0 : Int32))) (hc35 : p26 < (256 : Int32)) (hc36 : ¬ (p22 < (0 : Int32))) (hc37 : p22 < (256 : Int32)) (hc38 : ¬ (p27 < (0 : Int32))) (hc39 : p27 < (256 : Int32)) (hc40 : ¬ (p25 < (0 : Int32))) (hc41 : p25 < (3 : Int32)) (hc42 : ¬ (p20 < (0 : Int32))) (hc43 : p20 < (3 : Int32)) (hc45 : (own_seq p20 p21 p22 p25 p26 p27) = (0 : Int32)) :
    own_MF l zm9 c_8 3 (some .boolean) (own_R 2 0 0 28) #[(.ref a1), (.ref a2)] Z h0 (Q8_55 Z a1 a2 a6 a9 a13 a16 p20 p21 p22 p25 p26 p27 p29 h0 n0) := by
  refine own_st (L := (lc33 a1 a2)) (own := zs17) (plainFor_of_name pn_4) rfl (fun m => ef_10 m a1 a2) fun p e s m below meth c s₁ Bd hml hZ hh hx hby hown hnm X0 e0 => ?_
  have N0 := Fr.nil n0
  obtain ⟨T4, X4, e4, st4⟩ := instY X0 hx hZ hown (ww hw 71 rfl) e0 (Ins.self F3) (g := (mkF m 1 (lc33 a1 a2) [(.ref a2)])) rfl rfl (hb hby d8_1)
  refine own_go (U' := T4.setTop (mkF m 4 (lc33 a1 a2) [(.int 1)])) (fun t k => oaloadN X0 hx hby d8_0 rfl rfl (st4 _ k)) ?_
  obtain ⟨T5, X5, e5, st5⟩ := castY X4 hx hZ hown (ww hw 71 rfl) e4 (Ins.self F3) (g := (mkF m 8 (lc33 a1 a2) [(.ref a2)])) rfl rfl (hb hby d8_8)
  obtain ⟨T8, X8, e8, st8⟩ := getF X5 hx hZ hown (host := "") (Or.inl (ww hw 46 rfl)) Via.refl e5 F7 (g := (mkF m 13 (lc36 a1 a2 a2) [(.ref a1)])) rfl rfl (hb hby d8_13)
  obtain ⟨T11, X11, e11, st11⟩ := getF X8 hx hZ hown (host := "") (Or.inl (ww hw 46 rfl)) Via.refl e8 F10 (g := (mkF m 17 (lc36 a1 a2 a2) [(.ref a2), (.ref a6)])) rfl rfl (hb hby d8_17)
  obtain ⟨T15, X15, e15, st15⟩ := getF X11 hx hZ hown (host := "") (Or.inl (ww hw 50 rfl)) Via.refl e11 F14 (g := (mkF m 24 (lc36 a1 a2 a2) [(.ref a1)])) rfl rfl (hb hby d8_24)
  obtain ⟨T18, X18, e18, st18⟩ := getF X15 hx hZ hown (host := "") (Or.inl (ww hw 50 rfl)) Via.refl e15 F17 (g := (mkF m 28 (lc36 a1 a2 a2) [(.ref a2), (.ref a13)])) rfl rfl (hb hby d8_28)
  obtain ⟨_, T19, L19, X19, hQ19, st19⟩ := ocallV X18 hx hZ zm12 zm12 hown (ww hw 78 rfl) (ww hw 79 rfl) (notFace_of_selects (args := #[]) (mvT hZ (ww hw 81 rfl))) (ww hw 81 rfl) (ww hw 80 rfl) (by decide) (ww hw 82 rfl) (ww hw 6 rfl) e18 (own_Str.E F23) (mg13_54 l hw a13 a16 p25 p26 p27 p29 p20 p21 p22 h0 n0 Z0 ha24 F28 F30 hc31 F23 hc32 hc33 hc34 hc35 hc36 hc37 hc38 hc39 hc40 hc41 hc42 hc43) (st := [(.ref a16), (.ref a13)]) rfl 0 rfl (by decide) (pc := 31) (Ls := (lc36 a1 a2 a2)) hml rfl (lenOf pd_9 rfl) d8_31 hby
  obtain ⟨rfl, N19q, e19⟩ := hQ19
  have N44 := Fr.app N0 N19q
  refine own_go (U' := T19.setTop (mkF m 34 (lc36 a1 a2 a2) [(.int (own_seq p20 p21 p22 p25 p26 p27))])) (fun t k => oifN X4 hx hby d8_4 (by decide) (oaloadN X4 hx hby d8_7 rfl rfl (st5 _ (oastoreN X5 hx hby d8_11 (lc36 a1 a2 a2) rfl rfl (oaloadN X5 hx hby d8_12 rfl rfl (st8 _ (oaloadN X8 hx hby d8_16 rfl rfl (st11 _ (oacmp (pc := 20) X11 hx hby d8_20 23 (same := true) rfl rfl (decide_eq_true (congrArg Value.ref ha12)) (by decide) (oaloadN X11 hx hby d8_23 rfl rfl (st15 _ (oaloadN X15 hx hby d8_27 rfl rfl (st18 _ (st19 _ k)))))))))))))) ?_
  refine own_go (U' := T19.setTop (mkF m 56 (lc36 a1 a2 a2) [(.int 0)])) (fun t k => oifY (pc := 34) X19 hx hby d8_34 55 ((if0 _ _).trans (teq hc45).1) (by decide) (oiconst X19 hx hby d8_55 k)) ?_
  obtain ⟨fs, hr, hrun, hended, hW, hsame⟩ := X19.leave (v := some (.int 0)) (fun h => by rw [Bd.returns] at h; cases h)
  refine own_out ⟨_, _, ?_, hrun, hended, _, _, rfl, ?_, ⟨_, rfl⟩, hW, hsame.mono (by decide) (by decide)⟩
  · exact retN X19 hx (t := .boolean) Bd.returns (by simp) (hb hby d8_56) hr
  · show Q8_55 Z a1 a2 a6 a9 a13 a16 p20 p21 p22 p25 p26 p27 p29 h0 n0 _ T19.heap _
    rw [e19]
    exact ⟨rfl, N44, rfl⟩
def Q8_56 (Z : State) (a1 a2 a6 a9 a13 a16 : Addr) (p20 p21 p22 p25 p26 p27 p29 : Int32) (a46 a49 : Addr) (p53 p54 p55 p58 p59 p60 : Int32) (h0 : Heap) (n0 : Nat) (v : Option Value) (h : Heap) (L : List Loc) : Prop := v = some (.int 0) ∧ Fr n0 L ∧ h = h0
theorem rm8_56 (l : Launch) {Z : State} {a0 : Array Value} (hw : own_W Z a0) (a1 a2 a6 a9 a13 a16 : Addr) (p20 p21 p22 p25 p26 p27 p29 : Int32) (a46 a49 : Addr) (p53 p54 p55 p58 p59 p60 : Int32) (h0 : Heap) (n0 : Nat) (Z0 : n0 ≤ h0.size) (F3 : Exa Z h0 a2 zs17) (F7 : Fld Z h0 a1 zs17 "kind" zs11 (.ref a6)) (F10 : Fld Z h0 a2 zs17 "kind" zs11 (.ref a9)) (ha12 : a6 = a9) (F14 : Fld Z h0 a1 zs17 "id" zs18 (.ref a13)) (F17 : Fld Z h0 a2 zs17 "id" zs18 (.ref a16)) (F23 : own_Str Z h0 a13 p20 p21 p22) (ha24 : a13 ≠ a16) (F28 : own_Str Z h0 a16 p25 p26 p27) (F30 : Sta Z h0 zs0 zs7 "Z" (.int p29)) (hc31 : ¬ (p29 = (0 : Int32))) (hc32 : ¬ (p21 < (0 : Int32))) (hc33 : p21 < (256 : Int32)) (hc34 : ¬ (p26 < (0 : Int32))) (hc35 : p26 < (256 : Int32)) (hc36 : ¬ (p22 < (0 : Int32))) (hc37 : p22 < (256 : Int32)) (hc38 : ¬ (p27 < (0 : Int32))) (hc39 : p27 < (256 : Int32)) (hc40 : ¬ (p25 < (0 : Int32))) (hc41 : p25 < (3 : Int32)) (hc42 : ¬ (p20 < (0 : Int32))) (hc43 : p20 < (3 : Int32)) (hc45 : ¬ ((own_seq p20 p21 p22 p25 p26 p27) = (0 : Int32))) (F47 : Fld Z h0 a1 zs17 "version" zs18 (.ref a46)) (F50 : Fld Z h0 a2 zs17 "version" zs18 (.ref a49)) (F56 : own_Str Z h0 a46 p53 p54 p55) (ha57 : a46 ≠ a49) (F61 : own_Str Z h0 a49 p58 p59 p60) (hc62 : ¬ (p54 < (0 : Int32))) (hc63 : p54 < (256 : Int32)) (hc64 : ¬ (p59 < (0 : Int32))) (hc65 : p59 < (256 : Int32)) (hc66 : ¬ (p55 < (0 : Int32))) (hc67 : p55 < (256 : Int32)) (hc68 : ¬ (p60 < (0 : Int32))) (hc69 : p60 < (256 : Int32)) (hc70 : ¬ (p58 < (0 : Int32))) (hc71 : p58 < (3 : Int32)) (hc72 : ¬ (p53 < (0 : Int32))) (hc73 : p53 < (3 : Int32)) (hc75 : (own_seq p53 p54 p55 p58 p59 p60) = (0 : Int32)) :
    own_MF l zm9 c_8 3 (some .boolean) (own_R 2 0 0 28) #[(.ref a1), (.ref a2)] Z h0 (Q8_56 Z a1 a2 a6 a9 a13 a16 p20 p21 p22 p25 p26 p27 p29 a46 a49 p53 p54 p55 p58 p59 p60 h0 n0) := by
  refine own_st (L := (lc33 a1 a2)) (own := zs17) (plainFor_of_name pn_4) rfl (fun m => ef_10 m a1 a2) fun p e s m below meth c s₁ Bd hml hZ hh hx hby hown hnm X0 e0 => ?_
  have N0 := Fr.nil n0
  obtain ⟨T4, X4, e4, st4⟩ := instY X0 hx hZ hown (ww hw 71 rfl) e0 (Ins.self F3) (g := (mkF m 1 (lc33 a1 a2) [(.ref a2)])) rfl rfl (hb hby d8_1)
  refine own_go (U' := T4.setTop (mkF m 4 (lc33 a1 a2) [(.int 1)])) (fun t k => oaloadN X0 hx hby d8_0 rfl rfl (st4 _ k)) ?_
  obtain ⟨T5, X5, e5, st5⟩ := castY X4 hx hZ hown (ww hw 71 rfl) e4 (Ins.self F3) (g := (mkF m 8 (lc33 a1 a2) [(.ref a2)])) rfl rfl (hb hby d8_8)
  obtain ⟨T8, X8, e8, st8⟩ := getF X5 hx hZ hown (host := "") (Or.inl (ww hw 46 rfl)) Via.refl e5 F7 (g := (mkF m 13 (lc36 a1 a2 a2) [(.ref a1)])) rfl rfl (hb hby d8_13)
  obtain ⟨T11, X11, e11, st11⟩ := getF X8 hx hZ hown (host := "") (Or.inl (ww hw 46 rfl)) Via.refl e8 F10 (g := (mkF m 17 (lc36 a1 a2 a2) [(.ref a2), (.ref a6)])) rfl rfl (hb hby d8_17)
  obtain ⟨T15, X15, e15, st15⟩ := getF X11 hx hZ hown (host := "") (Or.inl (ww hw 50 rfl)) Via.refl e11 F14 (g := (mkF m 24 (lc36 a1 a2 a2) [(.ref a1)])) rfl rfl (hb hby d8_24)
  obtain ⟨T18, X18, e18, st18⟩ := getF X15 hx hZ hown (host := "") (Or.inl (ww hw 50 rfl)) Via.refl e15 F17 (g := (mkF m 28 (lc36 a1 a2 a2) [(.ref a2), (.ref a13)])) rfl rfl (hb hby d8_28)
  obtain ⟨_, T19, L19, X19, hQ19, st19⟩ := ocallV X18 hx hZ zm12 zm12 hown (ww hw 78 rfl) (ww hw 79 rfl) (notFace_of_selects (args := #[]) (mvT hZ (ww hw 81 rfl))) (ww hw 81 rfl) (ww hw 80 rfl) (by decide) (ww hw 82 rfl) (ww hw 6 rfl) e18 (own_Str.E F23) (mg13_54 l hw a13 a16 p25 p26 p27 p29 p20 p21 p22 h0 n0 Z0 ha24 F28 F30 hc31 F23 hc32 hc33 hc34 hc35 hc36 hc37 hc38 hc39 hc40 hc41 hc42 hc43) (st := [(.ref a16), (.ref a13)]) rfl 0 rfl (by decide) (pc := 31) (Ls := (lc36 a1 a2 a2)) hml rfl (lenOf pd_9 rfl) d8_31 hby
  obtain ⟨rfl, N19q, e19⟩ := hQ19
  have N44 := Fr.app N0 N19q
  refine own_go (U' := T19.setTop (mkF m 34 (lc36 a1 a2 a2) [(.int (own_seq p20 p21 p22 p25 p26 p27))])) (fun t k => oifN X4 hx hby d8_4 (by decide) (oaloadN X4 hx hby d8_7 rfl rfl (st5 _ (oastoreN X5 hx hby d8_11 (lc36 a1 a2 a2) rfl rfl (oaloadN X5 hx hby d8_12 rfl rfl (st8 _ (oaloadN X8 hx hby d8_16 rfl rfl (st11 _ (oacmp (pc := 20) X11 hx hby d8_20 23 (same := true) rfl rfl (decide_eq_true (congrArg Value.ref ha12)) (by decide) (oaloadN X11 hx hby d8_23 rfl rfl (st15 _ (oaloadN X15 hx hby d8_27 rfl rfl (st18 _ (st19 _ k)))))))))))))) ?_
  obtain ⟨T48, X48, e48, st48⟩ := getF X19 hx hZ hown (host := "") (Or.inl (ww hw 53 rfl)) Via.refl e19 F47 (g := (mkF m 38 (lc36 a1 a2 a2) [(.ref a1)])) rfl rfl (hb hby d8_38)
  obtain ⟨T51, X51, e51, st51⟩ := getF X48 hx hZ hown (host := "") (Or.inl (ww hw 53 rfl)) Via.refl e48 F50 (g := (mkF m 42 (lc36 a1 a2 a2) [(.ref a2), (.ref a46)])) rfl rfl (hb hby d8_42)
  obtain ⟨_, T52, L52, X52, hQ52, st52⟩ := ocallV X51 hx hZ zm12 zm12 hown (ww hw 78 rfl) (ww hw 79 rfl) (notFace_of_selects (args := #[]) (mvT hZ (ww hw 81 rfl))) (ww hw 81 rfl) (ww hw 80 rfl) (by decide) (ww hw 82 rfl) (ww hw 6 rfl) e51 (own_Str.E F56) (mg13_54 l hw a46 a49 p58 p59 p60 p29 p53 p54 p55 h0 n0 Z0 ha57 F61 F30 hc31 F56 hc62 hc63 hc64 hc65 hc66 hc67 hc68 hc69 hc70 hc71 hc72 hc73) (st := [(.ref a49), (.ref a46)]) rfl 0 rfl (by decide) (pc := 45) (Ls := (lc36 a1 a2 a2)) hml rfl (lenOf pd_9 rfl) d8_45 hby
  obtain ⟨rfl, N52q, e52⟩ := hQ52
  have N74 := Fr.app N44 N52q
  refine own_go (U' := T52.setTop (mkF m 48 (lc36 a1 a2 a2) [(.int (own_seq p53 p54 p55 p58 p59 p60))])) (fun t k => oifN X19 hx hby d8_34 ((if0 _ _).trans (feq hc45).1) (oaloadN X19 hx hby d8_37 rfl rfl (st48 _ (oaloadN X48 hx hby d8_41 rfl rfl (st51 _ (st52 _ k)))))) ?_
  refine own_go (U' := T52.setTop (mkF m 56 (lc36 a1 a2 a2) [(.int 0)])) (fun t k => oifY (pc := 48) X52 hx hby d8_48 55 ((if0 _ _).trans (teq hc75).1) (by decide) (oiconst X52 hx hby d8_55 k)) ?_
  obtain ⟨fs, hr, hrun, hended, hW, hsame⟩ := X52.leave (v := some (.int 0)) (fun h => by rw [Bd.returns] at h; cases h)
  refine own_out ⟨_, _, ?_, hrun, hended, _, _, rfl, ?_, ⟨_, rfl⟩, hW, hsame.mono (by decide) (by decide)⟩
  · exact retN X52 hx (t := .boolean) Bd.returns (by simp) (hb hby d8_56) hr
  · show Q8_56 Z a1 a2 a6 a9 a13 a16 p20 p21 p22 p25 p26 p27 p29 a46 a49 p53 p54 p55 p58 p59 p60 h0 n0 _ T52.heap _
    rw [e52]
    exact ⟨rfl, N74, rfl⟩
def Q8_57 (Z : State) (a1 a2 a6 a9 a13 a16 : Addr) (p20 p21 p22 p25 p26 p27 p29 : Int32) (a46 a49 : Addr) (p53 p54 p55 p58 p59 p60 : Int32) (h0 : Heap) (n0 : Nat) (v : Option Value) (h : Heap) (L : List Loc) : Prop := v = some (.int 1) ∧ Fr n0 L ∧ h = h0
theorem rm8_57 (l : Launch) {Z : State} {a0 : Array Value} (hw : own_W Z a0) (a1 a2 a6 a9 a13 a16 : Addr) (p20 p21 p22 p25 p26 p27 p29 : Int32) (a46 a49 : Addr) (p53 p54 p55 p58 p59 p60 : Int32) (h0 : Heap) (n0 : Nat) (Z0 : n0 ≤ h0.size) (F3 : Exa Z h0 a2 zs17) (F7 : Fld Z h0 a1 zs17 "kind" zs11 (.ref a6)) (F10 : Fld Z h0 a2 zs17 "kind" zs11 (.ref a9)) (ha12 : a6 = a9) (F14 : Fld Z h0 a1 zs17 "id" zs18 (.ref a13)) (F17 : Fld Z h0 a2 zs17 "id" zs18 (.ref a16)) (F23 : own_Str Z h0 a13 p20 p21 p22) (ha24 : a13 ≠ a16) (F28 : own_Str Z h0 a16 p25 p26 p27) (F30 : Sta Z h0 zs0 zs7 "Z" (.int p29)) (hc31 : ¬ (p29 = (0 : Int32))) (hc32 : ¬ (p21 < (0 : Int32))) (hc33 : p21 < (256 : Int32)) (hc34 : ¬ (p26 < (0 : Int32))) (hc35 : p26 < (256 : Int32)) (hc36 : ¬ (p22 < (0 : Int32))) (hc37 : p22 < (256 : Int32)) (hc38 : ¬ (p27 < (0 : Int32))) (hc39 : p27 < (256 : Int32)) (hc40 : ¬ (p25 < (0 : Int32))) (hc41 : p25 < (3 : Int32)) (hc42 : ¬ (p20 < (0 : Int32))) (hc43 : p20 < (3 : Int32)) (hc45 : ¬ ((own_seq p20 p21 p22 p25 p26 p27) = (0 : Int32))) (F47 : Fld Z h0 a1 zs17 "version" zs18 (.ref a46)) (F50 : Fld Z h0 a2 zs17 "version" zs18 (.ref a49)) (F56 : own_Str Z h0 a46 p53 p54 p55) (ha57 : a46 ≠ a49) (F61 : own_Str Z h0 a49 p58 p59 p60) (hc62 : ¬ (p54 < (0 : Int32))) (hc63 : p54 < (256 : Int32)) (hc64 : ¬ (p59 < (0 : Int32))) (hc65 : p59 < (256 : Int32)) (hc66 : ¬ (p55 < (0 : Int32))) (hc67 : p55 < (256 : Int32)) (hc68 : ¬ (p60 < (0 : Int32))) (hc69 : p60 < (256 : Int32)) (hc70 : ¬ (p58 < (0 : Int32))) (hc71 : p58 < (3 : Int32)) (hc72 : ¬ (p53 < (0 : Int32))) (hc73 : p53 < (3 : Int32)) (hc75 : ¬ ((own_seq p53 p54 p55 p58 p59 p60) = (0 : Int32))) :
    own_MF l zm9 c_8 3 (some .boolean) (own_R 2 0 0 28) #[(.ref a1), (.ref a2)] Z h0 (Q8_57 Z a1 a2 a6 a9 a13 a16 p20 p21 p22 p25 p26 p27 p29 a46 a49 p53 p54 p55 p58 p59 p60 h0 n0) := by
  refine own_st (L := (lc33 a1 a2)) (own := zs17) (plainFor_of_name pn_4) rfl (fun m => ef_10 m a1 a2) fun p e s m below meth c s₁ Bd hml hZ hh hx hby hown hnm X0 e0 => ?_
  have N0 := Fr.nil n0
  obtain ⟨T4, X4, e4, st4⟩ := instY X0 hx hZ hown (ww hw 71 rfl) e0 (Ins.self F3) (g := (mkF m 1 (lc33 a1 a2) [(.ref a2)])) rfl rfl (hb hby d8_1)
  refine own_go (U' := T4.setTop (mkF m 4 (lc33 a1 a2) [(.int 1)])) (fun t k => oaloadN X0 hx hby d8_0 rfl rfl (st4 _ k)) ?_
  obtain ⟨T5, X5, e5, st5⟩ := castY X4 hx hZ hown (ww hw 71 rfl) e4 (Ins.self F3) (g := (mkF m 8 (lc33 a1 a2) [(.ref a2)])) rfl rfl (hb hby d8_8)
  obtain ⟨T8, X8, e8, st8⟩ := getF X5 hx hZ hown (host := "") (Or.inl (ww hw 46 rfl)) Via.refl e5 F7 (g := (mkF m 13 (lc36 a1 a2 a2) [(.ref a1)])) rfl rfl (hb hby d8_13)
  obtain ⟨T11, X11, e11, st11⟩ := getF X8 hx hZ hown (host := "") (Or.inl (ww hw 46 rfl)) Via.refl e8 F10 (g := (mkF m 17 (lc36 a1 a2 a2) [(.ref a2), (.ref a6)])) rfl rfl (hb hby d8_17)
  obtain ⟨T15, X15, e15, st15⟩ := getF X11 hx hZ hown (host := "") (Or.inl (ww hw 50 rfl)) Via.refl e11 F14 (g := (mkF m 24 (lc36 a1 a2 a2) [(.ref a1)])) rfl rfl (hb hby d8_24)
  obtain ⟨T18, X18, e18, st18⟩ := getF X15 hx hZ hown (host := "") (Or.inl (ww hw 50 rfl)) Via.refl e15 F17 (g := (mkF m 28 (lc36 a1 a2 a2) [(.ref a2), (.ref a13)])) rfl rfl (hb hby d8_28)
  obtain ⟨_, T19, L19, X19, hQ19, st19⟩ := ocallV X18 hx hZ zm12 zm12 hown (ww hw 78 rfl) (ww hw 79 rfl) (notFace_of_selects (args := #[]) (mvT hZ (ww hw 81 rfl))) (ww hw 81 rfl) (ww hw 80 rfl) (by decide) (ww hw 82 rfl) (ww hw 6 rfl) e18 (own_Str.E F23) (mg13_54 l hw a13 a16 p25 p26 p27 p29 p20 p21 p22 h0 n0 Z0 ha24 F28 F30 hc31 F23 hc32 hc33 hc34 hc35 hc36 hc37 hc38 hc39 hc40 hc41 hc42 hc43) (st := [(.ref a16), (.ref a13)]) rfl 0 rfl (by decide) (pc := 31) (Ls := (lc36 a1 a2 a2)) hml rfl (lenOf pd_9 rfl) d8_31 hby
  obtain ⟨rfl, N19q, e19⟩ := hQ19
  have N44 := Fr.app N0 N19q
  refine own_go (U' := T19.setTop (mkF m 34 (lc36 a1 a2 a2) [(.int (own_seq p20 p21 p22 p25 p26 p27))])) (fun t k => oifN X4 hx hby d8_4 (by decide) (oaloadN X4 hx hby d8_7 rfl rfl (st5 _ (oastoreN X5 hx hby d8_11 (lc36 a1 a2 a2) rfl rfl (oaloadN X5 hx hby d8_12 rfl rfl (st8 _ (oaloadN X8 hx hby d8_16 rfl rfl (st11 _ (oacmp (pc := 20) X11 hx hby d8_20 23 (same := true) rfl rfl (decide_eq_true (congrArg Value.ref ha12)) (by decide) (oaloadN X11 hx hby d8_23 rfl rfl (st15 _ (oaloadN X15 hx hby d8_27 rfl rfl (st18 _ (st19 _ k)))))))))))))) ?_
  obtain ⟨T48, X48, e48, st48⟩ := getF X19 hx hZ hown (host := "") (Or.inl (ww hw 53 rfl)) Via.refl e19 F47 (g := (mkF m 38 (lc36 a1 a2 a2) [(.ref a1)])) rfl rfl (hb hby d8_38)
  obtain ⟨T51, X51, e51, st51⟩ := getF X48 hx hZ hown (host := "") (Or.inl (ww hw 53 rfl)) Via.refl e48 F50 (g := (mkF m 42 (lc36 a1 a2 a2) [(.ref a2), (.ref a46)])) rfl rfl (hb hby d8_42)
  obtain ⟨_, T52, L52, X52, hQ52, st52⟩ := ocallV X51 hx hZ zm12 zm12 hown (ww hw 78 rfl) (ww hw 79 rfl) (notFace_of_selects (args := #[]) (mvT hZ (ww hw 81 rfl))) (ww hw 81 rfl) (ww hw 80 rfl) (by decide) (ww hw 82 rfl) (ww hw 6 rfl) e51 (own_Str.E F56) (mg13_54 l hw a46 a49 p58 p59 p60 p29 p53 p54 p55 h0 n0 Z0 ha57 F61 F30 hc31 F56 hc62 hc63 hc64 hc65 hc66 hc67 hc68 hc69 hc70 hc71 hc72 hc73) (st := [(.ref a49), (.ref a46)]) rfl 0 rfl (by decide) (pc := 45) (Ls := (lc36 a1 a2 a2)) hml rfl (lenOf pd_9 rfl) d8_45 hby
  obtain ⟨rfl, N52q, e52⟩ := hQ52
  have N74 := Fr.app N44 N52q
  refine own_go (U' := T52.setTop (mkF m 48 (lc36 a1 a2 a2) [(.int (own_seq p53 p54 p55 p58 p59 p60))])) (fun t k => oifN X19 hx hby d8_34 ((if0 _ _).trans (feq hc45).1) (oaloadN X19 hx hby d8_37 rfl rfl (st48 _ (oaloadN X48 hx hby d8_41 rfl rfl (st51 _ (st52 _ k)))))) ?_
  refine own_go (U' := T52.setTop (mkF m 56 (lc36 a1 a2 a2) [(.int 1)])) (fun t k => oifN X52 hx hby d8_48 ((if0 _ _).trans (feq hc75).1) (oiconst X52 hx hby d8_51 (ogoto (pc := 52) X52 hx hby d8_52 56 (by decide) k))) ?_
  obtain ⟨fs, hr, hrun, hended, hW, hsame⟩ := X52.leave (v := some (.int 1)) (fun h => by rw [Bd.returns] at h; cases h)
  refine own_out ⟨_, _, ?_, hrun, hended, _, _, rfl, ?_, ⟨_, rfl⟩, hW, hsame.mono (by decide) (by decide)⟩
  · exact retN X52 hx (t := .boolean) Bd.returns (by simp) (hb hby d8_56) hr
  · show Q8_57 Z a1 a2 a6 a9 a13 a16 p20 p21 p22 p25 p26 p27 p29 a46 a49 p53 p54 p55 p58 p59 p60 h0 n0 _ T52.heap _
    rw [e52]
    exact ⟨rfl, N74, rfl⟩
def Q8_58 (Z : State) (a1 a2 a6 a9 : Addr) (h0 : Heap) (n0 : Nat) (v : Option Value) (h : Heap) (L : List Loc) : Prop := v = some (.int 0) ∧ Fr n0 L ∧ h = h0
theorem rm8_58 (l : Launch) {Z : State} {a0 : Array Value} (hw : own_W Z a0) (a1 a2 a6 a9 : Addr) (h0 : Heap) (n0 : Nat) (Z0 : n0 ≤ h0.size) (F3 : Exa Z h0 a2 zs17) (F7 : Fld Z h0 a1 zs17 "kind" zs11 (.ref a6)) (F10 : Fld Z h0 a2 zs17 "kind" zs11 (.ref a9)) (ha12 : a6 ≠ a9) :
    own_MF l zm9 c_8 3 (some .boolean) (own_R 0 0 0 0) #[(.ref a1), (.ref a2)] Z h0 (Q8_58 Z a1 a2 a6 a9 h0 n0) := by
  refine own_st (L := (lc33 a1 a2)) (own := zs17) (plainFor_of_name pn_4) rfl (fun m => ef_10 m a1 a2) fun p e s m below meth c s₁ Bd hml hZ hh hx hby hown hnm X0 e0 => ?_
  have N0 := Fr.nil n0
  obtain ⟨T4, X4, e4, st4⟩ := instY X0 hx hZ hown (ww hw 71 rfl) e0 (Ins.self F3) (g := (mkF m 1 (lc33 a1 a2) [(.ref a2)])) rfl rfl (hb hby d8_1)
  refine own_go (U' := T4.setTop (mkF m 4 (lc33 a1 a2) [(.int 1)])) (fun t k => oaloadN X0 hx hby d8_0 rfl rfl (st4 _ k)) ?_
  obtain ⟨T5, X5, e5, st5⟩ := castY X4 hx hZ hown (ww hw 71 rfl) e4 (Ins.self F3) (g := (mkF m 8 (lc33 a1 a2) [(.ref a2)])) rfl rfl (hb hby d8_8)
  obtain ⟨T8, X8, e8, st8⟩ := getF X5 hx hZ hown (host := "") (Or.inl (ww hw 46 rfl)) Via.refl e5 F7 (g := (mkF m 13 (lc36 a1 a2 a2) [(.ref a1)])) rfl rfl (hb hby d8_13)
  obtain ⟨T11, X11, e11, st11⟩ := getF X8 hx hZ hown (host := "") (Or.inl (ww hw 46 rfl)) Via.refl e8 F10 (g := (mkF m 17 (lc36 a1 a2 a2) [(.ref a2), (.ref a6)])) rfl rfl (hb hby d8_17)
  refine own_go (U' := T11.setTop (mkF m 56 (lc36 a1 a2 a2) [(.int 0)])) (fun t k => oifN X4 hx hby d8_4 (by decide) (oaloadN X4 hx hby d8_7 rfl rfl (st5 _ (oastoreN X5 hx hby d8_11 (lc36 a1 a2 a2) rfl rfl (oaloadN X5 hx hby d8_12 rfl rfl (st8 _ (oaloadN X8 hx hby d8_16 rfl rfl (st11 _ (oacmp (pc := 20) X11 hx hby d8_20 55 (same := false) rfl rfl (decide_eq_false fun q => ha12 (Value.ref.inj q)) (by decide) (oiconst X11 hx hby d8_55 k)))))))))) ?_
  obtain ⟨fs, hr, hrun, hended, hW, hsame⟩ := X11.leave (v := some (.int 0)) (fun h => by rw [Bd.returns] at h; cases h)
  refine own_out ⟨_, _, ?_, hrun, hended, _, _, rfl, ?_, ⟨_, rfl⟩, hW, hsame.mono (by decide) (by decide)⟩
  · exact retN X11 hx (t := .boolean) Bd.returns (by simp) (hb hby d8_56) hr
  · show Q8_58 Z a1 a2 a6 a9 h0 n0 _ T11.heap _
    rw [e11]
    exact ⟨rfl, N0, rfl⟩
set_option maxRecDepth 65536 in
set_option maxHeartbeats 40000000 in
theorem law_all (l : Launch) (Z : State) (a0 : Array Value) (hw : ∀ d ∈ tables_1, d.before a0 Z = true) (ws : List Jvm.Cond) (i0 i1 i2 i3 i4 i5 : Int32) (w0 w1 : Addr) (ci0 : Int32) (vy0 : Value) (h0 : Heap) (n0 : Nat) (Z0 : n0 ≤ h0.size) (S0 : Sta Z h0 "com/example/aspen/aspen/model/PolicyIdentifier$Kind" "POLICY" "Lcom/example/aspen/aspen/model/PolicyIdentifier$Kind;" (.ref w0)) (S1 : Exa Z h0 w0 "com/example/aspen/aspen/model/PolicyIdentifier$Kind") (S2 : Sta Z h0 "com/example/aspen/aspen/model/PolicyIdentifier$Kind" "POLICY_SET" "Lcom/example/aspen/aspen/model/PolicyIdentifier$Kind;" (.ref w1)) (S3 : Exa Z h0 w1 "com/example/aspen/aspen/model/PolicyIdentifier$Kind") (S4 : Fld Z h0 w1 "java/lang/Enum" "ordinal" "I" (.int 1)) (S5 : Fld Z h0 w0 "java/lang/Enum" "ordinal" "I" (.int 0)) (S6 : Sta Z h0 "jdk/internal/util/Preconditions" "SIOOBE_FORMATTER" "Ljava/util/function/BiFunction;" vy0) (hvy0 : vy0.isRef = true) (S8 : Sta Z h0 "java/lang/String" "COMPACT_STRINGS" "Z" (.int ci0)) (hci0 : ¬ (ci0 = (0 : Int32))) :
    MetFree l x (head1 (Jvm.Cond.code x code maxLocals ret :: ws) room_1) (fun a U => a = #[(.int i0), (.int i1), (.int i2), (.int i3), (.int i4), (.int i5)] ∧ Z.Warmed39 U.vm ∧ U.heap = h0 ∧ CHv Z consts_1 U.vm h0 ∧ ∀ x ∈ ([] : List Addr), Safe Z consts_1 U.vm h0 x) (fun _ _ _ _ _ => True) (fun _ U o U' => ∃ v L, o = .returned v ∧ QLaw n0 v U'.heap L ∧ CHr Z consts_1 U.vm U.heap U'.vm U'.heap ∧ ReturnedEndW U o U' L room_1.cells room_1.slots) := by
  refine MetFree.of_bodySF (plainFor_of_name pn_2) hisR ?_
  intro p e s m args below meth c s₁ Bd hml0 hP hK
  obtain ⟨rfl, hZ, hh, hC, hSL⟩ := hP
  have C0 := CHr.refl hC
  have hx := Bd.exec
  have hby := Bd.bytes
  have hml : c.maxLocals = 25 := hml0
  have hown : s.vm.findClass zs8 = some m.cls := findClass_of_methodNamed Bd.named
  have hnm := (name_of_methodNamed Bd.named Bd.method).1
  have X0 : Stand p l e room_1 s m #[(.int i0), (.int i1), (.int i2), (.int i3), (.int i4), (.int i5)] below meth c s₁ [] 0 0 := Stand.of_body Bd
  have e0 : s₁.heap = h0 := by rw [← hh, Bd.state]; rfl
  have N0 := Fr.nil n0
  refine own_pre (g' := mkF m 0 (lc31 i0 i1 i2 i3 i4 i5) []) (ef_9 m i0 i1 i2 i3 i4 i5) ?_
  refine own_go (U' := s₁.setTop (mkF m 7 (lc0 i0 i1 i2 i3 i4 i5 ((i0 &&& (3 : Int32)) % (3 : Int32))) [])) (fun t k => oiloadN X0 hx hby at_0 rfl (oiconst X0 hx hby at_1 (oiand X0 hx hby at_2 (oiconst X0 hx hby at_3 (oirem X0 hx hby at_4 (by decide) (oistore X0 hx hby at_5 (lc0 i0 i1 i2 i3 i4 i5 ((i0 &&& (3 : Int32)) % (3 : Int32))) rfl k)))))) ?_
  obtain ⟨z1, hz1⟩ : ∃ z, z = ((i0 &&& (3 : Int32)) % (3 : Int32)) := ⟨_, rfl⟩
  rw [← hz1]
  refine own_go (U' := s₁.setTop (mkF m 16 (lc1 i0 i1 i2 i3 i4 i5 z1 ((((i0.toUInt32 >>> ((2 : Int32) &&& 31).toUInt32).toInt32) &&& (3 : Int32)) % (3 : Int32))) [])) (fun t k => oiloadN X0 hx hby at_7 rfl (oiconst X0 hx hby at_8 (oiushr X0 hx hby at_9 (oiconst X0 hx hby at_10 (oiand X0 hx hby at_11 (oiconst X0 hx hby at_12 (oirem X0 hx hby at_13 (by decide) (oistore X0 hx hby at_14 (lc1 i0 i1 i2 i3 i4 i5 z1 ((((i0.toUInt32 >>> ((2 : Int32) &&& 31).toUInt32).toInt32) &&& (3 : Int32)) % (3 : Int32))) rfl k)))))))) ?_
  obtain ⟨z2, hz2⟩ : ∃ z, z = ((((i0.toUInt32 >>> ((2 : Int32) &&& 31).toUInt32).toInt32) &&& (3 : Int32)) % (3 : Int32)) := ⟨_, rfl⟩
  rw [← hz2]
  refine own_go (U' := s₁.setTop (mkF m 25 (lc2 i0 i1 i2 i3 i4 i5 z1 z2 ((((i0.toUInt32 >>> ((4 : Int32) &&& 31).toUInt32).toInt32) &&& (3 : Int32)) % (3 : Int32))) [])) (fun t k => oiloadN X0 hx hby at_16 rfl (oiconst X0 hx hby at_17 (oiushr X0 hx hby at_18 (oiconst X0 hx hby at_19 (oiand X0 hx hby at_20 (oiconst X0 hx hby at_21 (oirem X0 hx hby at_22 (by decide) (oistore X0 hx hby at_23 (lc2 i0 i1 i2 i3 i4 i5 z1 z2 ((((i0.toUInt32 >>> ((4 : Int32) &&& 31).toUInt32).toInt32) &&& (3 : Int32)) % (3 : Int32))) rfl k)))))))) ?_
  obtain ⟨z3, hz3⟩ : ∃ z, z = ((((i0.toUInt32 >>> ((4 : Int32) &&& 31).toUInt32).toInt32) &&& (3 : Int32)) % (3 : Int32)) := ⟨_, rfl⟩
  rw [← hz3]
  refine own_go (U' := s₁.setTop (mkF m 35 (lc3 i0 i1 i2 i3 i4 i5 z1 z2 z3 ((((i0.toUInt32 >>> ((6 : Int32) &&& 31).toUInt32).toInt32) &&& (3 : Int32)) % (3 : Int32))) [])) (fun t k => oiloadN X0 hx hby at_25 rfl (obipush X0 hx hby at_26 (oiushr X0 hx hby at_28 (oiconst X0 hx hby at_29 (oiand X0 hx hby at_30 (oiconst X0 hx hby at_31 (oirem X0 hx hby at_32 (by decide) (oistore X0 hx hby at_33 (lc3 i0 i1 i2 i3 i4 i5 z1 z2 z3 ((((i0.toUInt32 >>> ((6 : Int32) &&& 31).toUInt32).toInt32) &&& (3 : Int32)) % (3 : Int32))) rfl k)))))))) ?_
  obtain ⟨z4, hz4⟩ : ∃ z, z = ((((i0.toUInt32 >>> ((6 : Int32) &&& 31).toUInt32).toInt32) &&& (3 : Int32)) % (3 : Int32)) := ⟨_, rfl⟩
  rw [← hz4]
  refine own_go (U' := s₁.setTop (mkF m 41 (lc3 i0 i1 i2 i3 i4 i5 z1 z2 z3 z4) [(.int (i5 &&& (256 : Int32)))])) (fun t k => oiload X0 hx hby at_35 rfl (osipush X0 hx hby at_37 (oiand X0 hx hby at_40 k))) ?_
  refine own_tern (F := fun zt1 => s₁.setTop (mkF m 48 (lc3 i0 i1 i2 i3 i4 i5 z1 zt1 z3 z4) [])) (N := 3) (fun K => ?_) (fun zt1 hzt1 => ?_)
  · by_cases ht41 : (i5 &&& (256 : Int32)) = (0 : Int32)
    · have hc0 : (i5 &&& (256 : Int32)) = (0 : Int32) := ht41
      refine own_go (U' := s₁.setTop (mkF m 48 (lc3 i0 i1 i2 i3 i4 i5 z1 z2 z3 z4) [])) (fun t k => oifY (pc := 41) X0 hx hby at_41 48 ((if0 _ _).trans (teq hc0).1) (by decide) k) ?_
      have hc1 : ¬ (((((i0.toUInt32 >>> ((2 : Int32) &&& 31).toUInt32).toInt32) &&& (3 : Int32)) % (3 : Int32)) < (0 : Int32)) := (fun e => by have := Int32.lt_iff_toInt_lt.mp e; have := c_and ((i0.toUInt32 >>> ((2 : Int32) &&& 31).toUInt32).toInt32) (3 : Int32) (by decide); have := (by decide : ((3 : Int32)).toInt = 3); have := c_irem (((i0.toUInt32 >>> ((2 : Int32) &&& 31).toUInt32).toInt32) &&& (3 : Int32)) (3 : Int32) 3 (by decide); have := Int.emod_nonneg ((((i0.toUInt32 >>> ((2 : Int32) &&& 31).toUInt32).toInt32) &&& (3 : Int32))).toInt (show (3 : Int) ≠ 0 by decide); have := Int.emod_lt_of_pos ((((i0.toUInt32 >>> ((2 : Int32) &&& 31).toUInt32).toInt32) &&& (3 : Int32))).toInt (show (0 : Int) < 3 by decide); have := (by decide : ((0 : Int32)).toInt = 0); omega)
      have hs2 : ¬ (z2 < (0 : Int32)) := by rw [hz2]; exact hc1
      have hc3 : ((((i0.toUInt32 >>> ((2 : Int32) &&& 31).toUInt32).toInt32) &&& (3 : Int32)) % (3 : Int32)) < (3 : Int32) := (Int32.lt_iff_toInt_lt.mpr (by have := c_and ((i0.toUInt32 >>> ((2 : Int32) &&& 31).toUInt32).toInt32) (3 : Int32) (by decide); have := (by decide : ((3 : Int32)).toInt = 3); have := c_irem (((i0.toUInt32 >>> ((2 : Int32) &&& 31).toUInt32).toInt32) &&& (3 : Int32)) (3 : Int32) 3 (by decide); have := Int.emod_nonneg ((((i0.toUInt32 >>> ((2 : Int32) &&& 31).toUInt32).toInt32) &&& (3 : Int32))).toInt (show (3 : Int) ≠ 0 by decide); have := Int.emod_lt_of_pos ((((i0.toUInt32 >>> ((2 : Int32) &&& 31).toUInt32).toInt32) &&& (3 : Int32))).toInt (show (0 : Int) < 3 by decide); omega))
      have hs4 : z2 < (3 : Int32) := by rw [hz2]; exact hc3
      exact K _ ⟨hs2, hs4⟩
    · have hc5 : ¬ ((i5 &&& (256 : Int32)) = (0 : Int32)) := ht41
      refine own_go (U' := s₁.setTop (mkF m 48 (lc3 i0 i1 i2 i3 i4 i5 z1 z1 z3 z4) [])) (fun t k => oifN X0 hx hby at_41 ((if0 _ _).trans (feq hc5).1) (oiload X0 hx hby at_44 rfl (oistore X0 hx hby at_46 (lc3 i0 i1 i2 i3 i4 i5 z1 z1 z3 z4) rfl k))) ?_
      have hc6 : ¬ (((i0 &&& (3 : Int32)) % (3 : Int32)) < (0 : Int32)) := (fun e => by have := Int32.lt_iff_toInt_lt.mp e; have := c_and i0 (3 : Int32) (by decide); have := (by decide : ((3 : Int32)).toInt = 3); have := c_irem (i0 &&& (3 : Int32)) (3 : Int32) 3 (by decide); have := Int.emod_nonneg ((i0 &&& (3 : Int32))).toInt (show (3 : Int) ≠ 0 by decide); have := Int.emod_lt_of_pos ((i0 &&& (3 : Int32))).toInt (show (0 : Int) < 3 by decide); have := (by decide : ((0 : Int32)).toInt = 0); omega)
      have hs7 : ¬ (z1 < (0 : Int32)) := by rw [hz1]; exact hc6
      have hc8 : ((i0 &&& (3 : Int32)) % (3 : Int32)) < (3 : Int32) := (Int32.lt_iff_toInt_lt.mpr (by have := c_and i0 (3 : Int32) (by decide); have := (by decide : ((3 : Int32)).toInt = 3); have := c_irem (i0 &&& (3 : Int32)) (3 : Int32) 3 (by decide); have := Int.emod_nonneg ((i0 &&& (3 : Int32))).toInt (show (3 : Int) ≠ 0 by decide); have := Int.emod_lt_of_pos ((i0 &&& (3 : Int32))).toInt (show (0 : Int) < 3 by decide); omega))
      have hs9 : z1 < (3 : Int32) := by rw [hz1]; exact hc8
      exact K _ ⟨hs7, hs9⟩
  refine own_go (U' := s₁.setTop (mkF m 54 (lc3 i0 i1 i2 i3 i4 i5 z1 zt1 z3 z4) [(.int (i5 &&& (512 : Int32)))])) (fun t k => oiload X0 hx hby at_48 rfl (osipush X0 hx hby at_50 (oiand X0 hx hby at_53 k))) ?_
  refine own_tern (F := fun zt2 => s₁.setTop (mkF m 61 (lc3 i0 i1 i2 i3 i4 i5 z1 zt1 z3 zt2) [])) (N := 3) (fun K => ?_) (fun zt2 hzt2 => ?_)
  · by_cases ht54 : (i5 &&& (512 : Int32)) = (0 : Int32)
    · have hc10 : (i5 &&& (512 : Int32)) = (0 : Int32) := ht54
      refine own_go (U' := s₁.setTop (mkF m 61 (lc3 i0 i1 i2 i3 i4 i5 z1 zt1 z3 z4) [])) (fun t k => oifY (pc := 54) X0 hx hby at_54 61 ((if0 _ _).trans (teq hc10).1) (by decide) k) ?_
      have hc11 : ¬ (((((i0.toUInt32 >>> ((6 : Int32) &&& 31).toUInt32).toInt32) &&& (3 : Int32)) % (3 : Int32)) < (0 : Int32)) := (fun e => by have := Int32.lt_iff_toInt_lt.mp e; have := c_and ((i0.toUInt32 >>> ((6 : Int32) &&& 31).toUInt32).toInt32) (3 : Int32) (by decide); have := (by decide : ((3 : Int32)).toInt = 3); have := c_irem (((i0.toUInt32 >>> ((6 : Int32) &&& 31).toUInt32).toInt32) &&& (3 : Int32)) (3 : Int32) 3 (by decide); have := Int.emod_nonneg ((((i0.toUInt32 >>> ((6 : Int32) &&& 31).toUInt32).toInt32) &&& (3 : Int32))).toInt (show (3 : Int) ≠ 0 by decide); have := Int.emod_lt_of_pos ((((i0.toUInt32 >>> ((6 : Int32) &&& 31).toUInt32).toInt32) &&& (3 : Int32))).toInt (show (0 : Int) < 3 by decide); have := (by decide : ((0 : Int32)).toInt = 0); omega)
      have hs12 : ¬ (z4 < (0 : Int32)) := by rw [hz4]; exact hc11
      have hc13 : ((((i0.toUInt32 >>> ((6 : Int32) &&& 31).toUInt32).toInt32) &&& (3 : Int32)) % (3 : Int32)) < (3 : Int32) := (Int32.lt_iff_toInt_lt.mpr (by have := c_and ((i0.toUInt32 >>> ((6 : Int32) &&& 31).toUInt32).toInt32) (3 : Int32) (by decide); have := (by decide : ((3 : Int32)).toInt = 3); have := c_irem (((i0.toUInt32 >>> ((6 : Int32) &&& 31).toUInt32).toInt32) &&& (3 : Int32)) (3 : Int32) 3 (by decide); have := Int.emod_nonneg ((((i0.toUInt32 >>> ((6 : Int32) &&& 31).toUInt32).toInt32) &&& (3 : Int32))).toInt (show (3 : Int) ≠ 0 by decide); have := Int.emod_lt_of_pos ((((i0.toUInt32 >>> ((6 : Int32) &&& 31).toUInt32).toInt32) &&& (3 : Int32))).toInt (show (0 : Int) < 3 by decide); omega))
      have hs14 : z4 < (3 : Int32) := by rw [hz4]; exact hc13
      exact K _ ⟨hs12, hs14⟩
    · have hc15 : ¬ ((i5 &&& (512 : Int32)) = (0 : Int32)) := ht54
      refine own_go (U' := s₁.setTop (mkF m 61 (lc3 i0 i1 i2 i3 i4 i5 z1 zt1 z3 z3) [])) (fun t k => oifN X0 hx hby at_54 ((if0 _ _).trans (feq hc15).1) (oiload X0 hx hby at_57 rfl (oistore X0 hx hby at_59 (lc3 i0 i1 i2 i3 i4 i5 z1 zt1 z3 z3) rfl k))) ?_
      have hc16 : ¬ (((((i0.toUInt32 >>> ((4 : Int32) &&& 31).toUInt32).toInt32) &&& (3 : Int32)) % (3 : Int32)) < (0 : Int32)) := (fun e => by have := Int32.lt_iff_toInt_lt.mp e; have := c_and ((i0.toUInt32 >>> ((4 : Int32) &&& 31).toUInt32).toInt32) (3 : Int32) (by decide); have := (by decide : ((3 : Int32)).toInt = 3); have := c_irem (((i0.toUInt32 >>> ((4 : Int32) &&& 31).toUInt32).toInt32) &&& (3 : Int32)) (3 : Int32) 3 (by decide); have := Int.emod_nonneg ((((i0.toUInt32 >>> ((4 : Int32) &&& 31).toUInt32).toInt32) &&& (3 : Int32))).toInt (show (3 : Int) ≠ 0 by decide); have := Int.emod_lt_of_pos ((((i0.toUInt32 >>> ((4 : Int32) &&& 31).toUInt32).toInt32) &&& (3 : Int32))).toInt (show (0 : Int) < 3 by decide); have := (by decide : ((0 : Int32)).toInt = 0); omega)
      have hs17 : ¬ (z3 < (0 : Int32)) := by rw [hz3]; exact hc16
      have hc18 : ((((i0.toUInt32 >>> ((4 : Int32) &&& 31).toUInt32).toInt32) &&& (3 : Int32)) % (3 : Int32)) < (3 : Int32) := (Int32.lt_iff_toInt_lt.mpr (by have := c_and ((i0.toUInt32 >>> ((4 : Int32) &&& 31).toUInt32).toInt32) (3 : Int32) (by decide); have := (by decide : ((3 : Int32)).toInt = 3); have := c_irem (((i0.toUInt32 >>> ((4 : Int32) &&& 31).toUInt32).toInt32) &&& (3 : Int32)) (3 : Int32) 3 (by decide); have := Int.emod_nonneg ((((i0.toUInt32 >>> ((4 : Int32) &&& 31).toUInt32).toInt32) &&& (3 : Int32))).toInt (show (3 : Int) ≠ 0 by decide); have := Int.emod_lt_of_pos ((((i0.toUInt32 >>> ((4 : Int32) &&& 31).toUInt32).toInt32) &&& (3 : Int32))).toInt (show (0 : Int) < 3 by decide); omega))
      have hs19 : z3 < (3 : Int32) := by rw [hz3]; exact hc18
      exact K _ ⟨hs17, hs19⟩
  refine own_go (U' := s₁.setTop (mkF m 67 (lc3 i0 i1 i2 i3 i4 i5 z1 zt1 z3 zt2) [(.int ((i1 &&& (255 : Int32)).toUInt32.toUInt16.toUInt32.toInt32))])) (fun t k => oiloadN X0 hx hby at_61 rfl (osipush X0 hx hby at_62 (oiand X0 hx hby at_65 (oi2c X0 hx hby at_66 k)))) ?_
  have hc20 : ¬ ((i1 &&& (255 : Int32)) < (0 : Int32)) := (fun e => by have := Int32.lt_iff_toInt_lt.mp e; have := c_and i1 (255 : Int32) (by decide); have := (by decide : ((255 : Int32)).toInt = 255); have := (by decide : ((0 : Int32)).toInt = 0); omega)
  have hc21 : (i1 &&& (255 : Int32)) < (65536 : Int32) := (Int32.lt_iff_toInt_lt.mpr (by have := c_and i1 (255 : Int32) (by decide); have := (by decide : ((255 : Int32)).toInt = 255); have := (by decide : ((65536 : Int32)).toInt = 65536); omega))
  rw [own_i2c (x := (i1 &&& (255 : Int32))) hc20 hc21]
  refine own_go (U' := s₁.setTop (mkF m 69 (lc4 i0 i1 i2 i3 i4 i5 z1 zt1 z3 zt2 (i1 &&& (255 : Int32))) [])) (fun t k => oistore X0 hx hby at_67 (lc4 i0 i1 i2 i3 i4 i5 z1 zt1 z3 zt2 (i1 &&& (255 : Int32))) rfl k) ?_
  obtain ⟨z5, hz5⟩ : ∃ z, z = (i1 &&& (255 : Int32)) := ⟨_, rfl⟩
  rw [← hz5]
  refine own_go (U' := s₁.setTop (mkF m 78 (lc4 i0 i1 i2 i3 i4 i5 z1 zt1 z3 zt2 z5) [(.int ((((i1.toUInt32 >>> ((8 : Int32) &&& 31).toUInt32).toInt32) &&& (255 : Int32)).toUInt32.toUInt16.toUInt32.toInt32))])) (fun t k => oiloadN X0 hx hby at_69 rfl (obipush X0 hx hby at_70 (oiushr X0 hx hby at_72 (osipush X0 hx hby at_73 (oiand X0 hx hby at_76 (oi2c X0 hx hby at_77 k)))))) ?_
  have hc23 : ¬ ((((i1.toUInt32 >>> ((8 : Int32) &&& 31).toUInt32).toInt32) &&& (255 : Int32)) < (0 : Int32)) := (fun e => by have := Int32.lt_iff_toInt_lt.mp e; have := c_and ((i1.toUInt32 >>> ((8 : Int32) &&& 31).toUInt32).toInt32) (255 : Int32) (by decide); have := (by decide : ((255 : Int32)).toInt = 255); have := (by decide : ((0 : Int32)).toInt = 0); omega)
  have hc24 : (((i1.toUInt32 >>> ((8 : Int32) &&& 31).toUInt32).toInt32) &&& (255 : Int32)) < (65536 : Int32) := (Int32.lt_iff_toInt_lt.mpr (by have := c_and ((i1.toUInt32 >>> ((8 : Int32) &&& 31).toUInt32).toInt32) (255 : Int32) (by decide); have := (by decide : ((255 : Int32)).toInt = 255); have := (by decide : ((65536 : Int32)).toInt = 65536); omega))
  rw [own_i2c (x := (((i1.toUInt32 >>> ((8 : Int32) &&& 31).toUInt32).toInt32) &&& (255 : Int32))) hc23 hc24]
  refine own_go (U' := s₁.setTop (mkF m 80 (lc5 i0 i1 i2 i3 i4 i5 z1 zt1 z3 zt2 z5 (((i1.toUInt32 >>> ((8 : Int32) &&& 31).toUInt32).toInt32) &&& (255 : Int32))) [])) (fun t k => oistore X0 hx hby at_78 (lc5 i0 i1 i2 i3 i4 i5 z1 zt1 z3 zt2 z5 (((i1.toUInt32 >>> ((8 : Int32) &&& 31).toUInt32).toInt32) &&& (255 : Int32))) rfl k) ?_
  obtain ⟨z6, hz6⟩ : ∃ z, z = (((i1.toUInt32 >>> ((8 : Int32) &&& 31).toUInt32).toInt32) &&& (255 : Int32)) := ⟨_, rfl⟩
  rw [← hz6]
  refine own_go (U' := s₁.setTop (mkF m 84 (lc5 i0 i1 i2 i3 i4 i5 z1 zt1 z3 zt2 z5 z6) [(.int (i5 &&& (1 : Int32)))])) (fun t k => oiload X0 hx hby at_80 rfl (oiconst X0 hx hby at_82 (oiand X0 hx hby at_83 k))) ?_
  refine own_tern (F := fun zt3 => s₁.setTop (mkF m 98 (lc5 i0 i1 i2 i3 i4 i5 z1 zt1 z3 zt2 z5 z6) [(.int zt3)])) (N := 256) (fun K => ?_) (fun zt3 hzt3 => ?_)
  · by_cases ht84 : (i5 &&& (1 : Int32)) = (0 : Int32)
    · have hc25 : (i5 &&& (1 : Int32)) = (0 : Int32) := ht84
      refine own_go (U' := s₁.setTop (mkF m 98 (lc5 i0 i1 i2 i3 i4 i5 z1 zt1 z3 zt2 z5 z6) [(.int ((i2 &&& (255 : Int32)).toUInt32.toUInt16.toUInt32.toInt32))])) (fun t k => oifY (pc := 84) X0 hx hby at_84 92 ((if0 _ _).trans (teq hc25).1) (by decide) (oiloadN X0 hx hby at_92 rfl (osipush X0 hx hby at_93 (oiand X0 hx hby at_96 (oi2c X0 hx hby at_97 k))))) ?_
      have hc26 : ¬ ((i2 &&& (255 : Int32)) < (0 : Int32)) := (fun e => by have := Int32.lt_iff_toInt_lt.mp e; have := c_and i2 (255 : Int32) (by decide); have := (by decide : ((255 : Int32)).toInt = 255); have := (by decide : ((0 : Int32)).toInt = 0); omega)
      have hc27 : (i2 &&& (255 : Int32)) < (65536 : Int32) := (Int32.lt_iff_toInt_lt.mpr (by have := c_and i2 (255 : Int32) (by decide); have := (by decide : ((255 : Int32)).toInt = 255); have := (by decide : ((65536 : Int32)).toInt = 65536); omega))
      rw [own_i2c (x := (i2 &&& (255 : Int32))) hc26 hc27]
      have hc28 : (i2 &&& (255 : Int32)) < (256 : Int32) := (Int32.lt_iff_toInt_lt.mpr (by have := c_and i2 (255 : Int32) (by decide); have := (by decide : ((255 : Int32)).toInt = 255); have := (by decide : ((256 : Int32)).toInt = 256); omega))
      exact K _ ⟨hc26, hc28⟩
    · have hc29 : ¬ ((i5 &&& (1 : Int32)) = (0 : Int32)) := ht84
      refine own_go (U' := s₁.setTop (mkF m 98 (lc5 i0 i1 i2 i3 i4 i5 z1 zt1 z3 zt2 z5 z6) [(.int z5)])) (fun t k => oifN X0 hx hby at_84 ((if0 _ _).trans (feq hc29).1) (oiload X0 hx hby at_87 rfl (ogoto (pc := 89) X0 hx hby at_89 98 (by decide) k))) ?_
      have hc20 : ¬ ((i1 &&& (255 : Int32)) < (0 : Int32)) := (fun e => by have := Int32.lt_iff_toInt_lt.mp e; have := c_and i1 (255 : Int32) (by decide); have := (by decide : ((255 : Int32)).toInt = 255); have := (by decide : ((0 : Int32)).toInt = 0); omega)
      have hs30 : ¬ (z5 < (0 : Int32)) := by rw [hz5]; exact hc20
      have hc31 : (i1 &&& (255 : Int32)) < (256 : Int32) := (Int32.lt_iff_toInt_lt.mpr (by have := c_and i1 (255 : Int32) (by decide); have := (by decide : ((255 : Int32)).toInt = 255); have := (by decide : ((256 : Int32)).toInt = 256); omega))
      have hs32 : z5 < (256 : Int32) := by rw [hz5]; exact hc31
      exact K _ ⟨hs30, hs32⟩
  refine own_go (U' := s₁.setTop (mkF m 104 (lc6 i0 i1 i2 i3 i4 i5 z1 zt1 z3 zt2 z5 z6 zt3) [(.int (i5 &&& (2 : Int32)))])) (fun t k => oistore X0 hx hby at_98 (lc6 i0 i1 i2 i3 i4 i5 z1 zt1 z3 zt2 z5 z6 zt3) rfl (oiload X0 hx hby at_100 rfl (oiconst X0 hx hby at_102 (oiand X0 hx hby at_103 k)))) ?_
  refine own_tern (F := fun zt4 => s₁.setTop (mkF m 121 (lc6 i0 i1 i2 i3 i4 i5 z1 zt1 z3 zt2 z5 z6 zt3) [(.int zt4)])) (N := 256) (fun K => ?_) (fun zt4 hzt4 => ?_)
  · by_cases ht104 : (i5 &&& (2 : Int32)) = (0 : Int32)
    · have hc33 : (i5 &&& (2 : Int32)) = (0 : Int32) := ht104
      refine own_go (U' := s₁.setTop (mkF m 121 (lc6 i0 i1 i2 i3 i4 i5 z1 zt1 z3 zt2 z5 z6 zt3) [(.int ((((i2.toUInt32 >>> ((8 : Int32) &&& 31).toUInt32).toInt32) &&& (255 : Int32)).toUInt32.toUInt16.toUInt32.toInt32))])) (fun t k => oifY (pc := 104) X0 hx hby at_104 112 ((if0 _ _).trans (teq hc33).1) (by decide) (oiloadN X0 hx hby at_112 rfl (obipush X0 hx hby at_113 (oiushr X0 hx hby at_115 (osipush X0 hx hby at_116 (oiand X0 hx hby at_119 (oi2c X0 hx hby at_120 k))))))) ?_
      have hc35 : ¬ ((((i2.toUInt32 >>> ((8 : Int32) &&& 31).toUInt32).toInt32) &&& (255 : Int32)) < (0 : Int32)) := (fun e => by have := Int32.lt_iff_toInt_lt.mp e; have := c_and ((i2.toUInt32 >>> ((8 : Int32) &&& 31).toUInt32).toInt32) (255 : Int32) (by decide); have := (by decide : ((255 : Int32)).toInt = 255); have := (by decide : ((0 : Int32)).toInt = 0); omega)
      have hc36 : (((i2.toUInt32 >>> ((8 : Int32) &&& 31).toUInt32).toInt32) &&& (255 : Int32)) < (65536 : Int32) := (Int32.lt_iff_toInt_lt.mpr (by have := c_and ((i2.toUInt32 >>> ((8 : Int32) &&& 31).toUInt32).toInt32) (255 : Int32) (by decide); have := (by decide : ((255 : Int32)).toInt = 255); have := (by decide : ((65536 : Int32)).toInt = 65536); omega))
      rw [own_i2c (x := (((i2.toUInt32 >>> ((8 : Int32) &&& 31).toUInt32).toInt32) &&& (255 : Int32))) hc35 hc36]
      have hc37 : (((i2.toUInt32 >>> ((8 : Int32) &&& 31).toUInt32).toInt32) &&& (255 : Int32)) < (256 : Int32) := (Int32.lt_iff_toInt_lt.mpr (by have := c_and ((i2.toUInt32 >>> ((8 : Int32) &&& 31).toUInt32).toInt32) (255 : Int32) (by decide); have := (by decide : ((255 : Int32)).toInt = 255); have := (by decide : ((256 : Int32)).toInt = 256); omega))
      exact K _ ⟨hc35, hc37⟩
    · have hc38 : ¬ ((i5 &&& (2 : Int32)) = (0 : Int32)) := ht104
      refine own_go (U' := s₁.setTop (mkF m 121 (lc6 i0 i1 i2 i3 i4 i5 z1 zt1 z3 zt2 z5 z6 zt3) [(.int z6)])) (fun t k => oifN X0 hx hby at_104 ((if0 _ _).trans (feq hc38).1) (oiload X0 hx hby at_107 rfl (ogoto (pc := 109) X0 hx hby at_109 121 (by decide) k))) ?_
      have hc23 : ¬ ((((i1.toUInt32 >>> ((8 : Int32) &&& 31).toUInt32).toInt32) &&& (255 : Int32)) < (0 : Int32)) := (fun e => by have := Int32.lt_iff_toInt_lt.mp e; have := c_and ((i1.toUInt32 >>> ((8 : Int32) &&& 31).toUInt32).toInt32) (255 : Int32) (by decide); have := (by decide : ((255 : Int32)).toInt = 255); have := (by decide : ((0 : Int32)).toInt = 0); omega)
      have hs39 : ¬ (z6 < (0 : Int32)) := by rw [hz6]; exact hc23
      have hc40 : (((i1.toUInt32 >>> ((8 : Int32) &&& 31).toUInt32).toInt32) &&& (255 : Int32)) < (256 : Int32) := (Int32.lt_iff_toInt_lt.mpr (by have := c_and ((i1.toUInt32 >>> ((8 : Int32) &&& 31).toUInt32).toInt32) (255 : Int32) (by decide); have := (by decide : ((255 : Int32)).toInt = 255); have := (by decide : ((256 : Int32)).toInt = 256); omega))
      have hs41 : z6 < (256 : Int32) := by rw [hz6]; exact hc40
      exact K _ ⟨hs39, hs41⟩
  refine own_go (U' := s₁.setTop (mkF m 129 (lc7 i0 i1 i2 i3 i4 i5 z1 zt1 z3 zt2 z5 z6 zt3 zt4) [(.int ((i3 &&& (255 : Int32)).toUInt32.toUInt16.toUInt32.toInt32))])) (fun t k => oistore X0 hx hby at_121 (lc7 i0 i1 i2 i3 i4 i5 z1 zt1 z3 zt2 z5 z6 zt3 zt4) rfl (oiloadN X0 hx hby at_123 rfl (osipush X0 hx hby at_124 (oiand X0 hx hby at_127 (oi2c X0 hx hby at_128 k))))) ?_
  have hc42 : ¬ ((i3 &&& (255 : Int32)) < (0 : Int32)) := (fun e => by have := Int32.lt_iff_toInt_lt.mp e; have := c_and i3 (255 : Int32) (by decide); have := (by decide : ((255 : Int32)).toInt = 255); have := (by decide : ((0 : Int32)).toInt = 0); omega)
  have hc43 : (i3 &&& (255 : Int32)) < (65536 : Int32) := (Int32.lt_iff_toInt_lt.mpr (by have := c_and i3 (255 : Int32) (by decide); have := (by decide : ((255 : Int32)).toInt = 255); have := (by decide : ((65536 : Int32)).toInt = 65536); omega))
  rw [own_i2c (x := (i3 &&& (255 : Int32))) hc42 hc43]
  refine own_go (U' := s₁.setTop (mkF m 131 (lc8 i0 i1 i2 i3 i4 i5 z1 zt1 z3 zt2 z5 z6 zt3 zt4 (i3 &&& (255 : Int32))) [])) (fun t k => oistore X0 hx hby at_129 (lc8 i0 i1 i2 i3 i4 i5 z1 zt1 z3 zt2 z5 z6 zt3 zt4 (i3 &&& (255 : Int32))) rfl k) ?_
  obtain ⟨z7, hz7⟩ : ∃ z, z = (i3 &&& (255 : Int32)) := ⟨_, rfl⟩
  rw [← hz7]
  refine own_go (U' := s₁.setTop (mkF m 140 (lc8 i0 i1 i2 i3 i4 i5 z1 zt1 z3 zt2 z5 z6 zt3 zt4 z7) [(.int ((((i3.toUInt32 >>> ((8 : Int32) &&& 31).toUInt32).toInt32) &&& (255 : Int32)).toUInt32.toUInt16.toUInt32.toInt32))])) (fun t k => oiloadN X0 hx hby at_131 rfl (obipush X0 hx hby at_132 (oiushr X0 hx hby at_134 (osipush X0 hx hby at_135 (oiand X0 hx hby at_138 (oi2c X0 hx hby at_139 k)))))) ?_
  have hc45 : ¬ ((((i3.toUInt32 >>> ((8 : Int32) &&& 31).toUInt32).toInt32) &&& (255 : Int32)) < (0 : Int32)) := (fun e => by have := Int32.lt_iff_toInt_lt.mp e; have := c_and ((i3.toUInt32 >>> ((8 : Int32) &&& 31).toUInt32).toInt32) (255 : Int32) (by decide); have := (by decide : ((255 : Int32)).toInt = 255); have := (by decide : ((0 : Int32)).toInt = 0); omega)
  have hc46 : (((i3.toUInt32 >>> ((8 : Int32) &&& 31).toUInt32).toInt32) &&& (255 : Int32)) < (65536 : Int32) := (Int32.lt_iff_toInt_lt.mpr (by have := c_and ((i3.toUInt32 >>> ((8 : Int32) &&& 31).toUInt32).toInt32) (255 : Int32) (by decide); have := (by decide : ((255 : Int32)).toInt = 255); have := (by decide : ((65536 : Int32)).toInt = 65536); omega))
  rw [own_i2c (x := (((i3.toUInt32 >>> ((8 : Int32) &&& 31).toUInt32).toInt32) &&& (255 : Int32))) hc45 hc46]
  refine own_go (U' := s₁.setTop (mkF m 142 (lc9 i0 i1 i2 i3 i4 i5 z1 zt1 z3 zt2 z5 z6 zt3 zt4 z7 (((i3.toUInt32 >>> ((8 : Int32) &&& 31).toUInt32).toInt32) &&& (255 : Int32))) [])) (fun t k => oistore X0 hx hby at_140 (lc9 i0 i1 i2 i3 i4 i5 z1 zt1 z3 zt2 z5 z6 zt3 zt4 z7 (((i3.toUInt32 >>> ((8 : Int32) &&& 31).toUInt32).toInt32) &&& (255 : Int32))) rfl k) ?_
  obtain ⟨z8, hz8⟩ : ∃ z, z = (((i3.toUInt32 >>> ((8 : Int32) &&& 31).toUInt32).toInt32) &&& (255 : Int32)) := ⟨_, rfl⟩
  rw [← hz8]
  refine own_go (U' := s₁.setTop (mkF m 146 (lc9 i0 i1 i2 i3 i4 i5 z1 zt1 z3 zt2 z5 z6 zt3 zt4 z7 z8) [(.int (i5 &&& (4 : Int32)))])) (fun t k => oiload X0 hx hby at_142 rfl (oiconst X0 hx hby at_144 (oiand X0 hx hby at_145 k))) ?_
  refine own_tern (F := fun zt5 => s₁.setTop (mkF m 161 (lc9 i0 i1 i2 i3 i4 i5 z1 zt1 z3 zt2 z5 z6 zt3 zt4 z7 z8) [(.int zt5)])) (N := 256) (fun K => ?_) (fun zt5 hzt5 => ?_)
  · by_cases ht146 : (i5 &&& (4 : Int32)) = (0 : Int32)
    · have hc47 : (i5 &&& (4 : Int32)) = (0 : Int32) := ht146
      refine own_go (U' := s₁.setTop (mkF m 161 (lc9 i0 i1 i2 i3 i4 i5 z1 zt1 z3 zt2 z5 z6 zt3 zt4 z7 z8) [(.int ((i4 &&& (255 : Int32)).toUInt32.toUInt16.toUInt32.toInt32))])) (fun t k => oifY (pc := 146) X0 hx hby at_146 154 ((if0 _ _).trans (teq hc47).1) (by decide) (oiload X0 hx hby at_154 rfl (osipush X0 hx hby at_156 (oiand X0 hx hby at_159 (oi2c X0 hx hby at_160 k))))) ?_
      have hc48 : ¬ ((i4 &&& (255 : Int32)) < (0 : Int32)) := (fun e => by have := Int32.lt_iff_toInt_lt.mp e; have := c_and i4 (255 : Int32) (by decide); have := (by decide : ((255 : Int32)).toInt = 255); have := (by decide : ((0 : Int32)).toInt = 0); omega)
      have hc49 : (i4 &&& (255 : Int32)) < (65536 : Int32) := (Int32.lt_iff_toInt_lt.mpr (by have := c_and i4 (255 : Int32) (by decide); have := (by decide : ((255 : Int32)).toInt = 255); have := (by decide : ((65536 : Int32)).toInt = 65536); omega))
      rw [own_i2c (x := (i4 &&& (255 : Int32))) hc48 hc49]
      have hc50 : (i4 &&& (255 : Int32)) < (256 : Int32) := (Int32.lt_iff_toInt_lt.mpr (by have := c_and i4 (255 : Int32) (by decide); have := (by decide : ((255 : Int32)).toInt = 255); have := (by decide : ((256 : Int32)).toInt = 256); omega))
      exact K _ ⟨hc48, hc50⟩
    · have hc51 : ¬ ((i5 &&& (4 : Int32)) = (0 : Int32)) := ht146
      refine own_go (U' := s₁.setTop (mkF m 161 (lc9 i0 i1 i2 i3 i4 i5 z1 zt1 z3 zt2 z5 z6 zt3 zt4 z7 z8) [(.int z7)])) (fun t k => oifN X0 hx hby at_146 ((if0 _ _).trans (feq hc51).1) (oiload X0 hx hby at_149 rfl (ogoto (pc := 151) X0 hx hby at_151 161 (by decide) k))) ?_
      have hc42 : ¬ ((i3 &&& (255 : Int32)) < (0 : Int32)) := (fun e => by have := Int32.lt_iff_toInt_lt.mp e; have := c_and i3 (255 : Int32) (by decide); have := (by decide : ((255 : Int32)).toInt = 255); have := (by decide : ((0 : Int32)).toInt = 0); omega)
      have hs52 : ¬ (z7 < (0 : Int32)) := by rw [hz7]; exact hc42
      have hc53 : (i3 &&& (255 : Int32)) < (256 : Int32) := (Int32.lt_iff_toInt_lt.mpr (by have := c_and i3 (255 : Int32) (by decide); have := (by decide : ((255 : Int32)).toInt = 255); have := (by decide : ((256 : Int32)).toInt = 256); omega))
      have hs54 : z7 < (256 : Int32) := by rw [hz7]; exact hc53
      exact K _ ⟨hs52, hs54⟩
  refine own_go (U' := s₁.setTop (mkF m 168 (lc10 i0 i1 i2 i3 i4 i5 z1 zt1 z3 zt2 z5 z6 zt3 zt4 z7 z8 zt5) [(.int (i5 &&& (8 : Int32)))])) (fun t k => oistore X0 hx hby at_161 (lc10 i0 i1 i2 i3 i4 i5 z1 zt1 z3 zt2 z5 z6 zt3 zt4 z7 z8 zt5) rfl (oiload X0 hx hby at_163 rfl (obipush X0 hx hby at_165 (oiand X0 hx hby at_167 k)))) ?_
  refine own_tern (F := fun zt6 => s₁.setTop (mkF m 186 (lc10 i0 i1 i2 i3 i4 i5 z1 zt1 z3 zt2 z5 z6 zt3 zt4 z7 z8 zt5) [(.int zt6)])) (N := 256) (fun K => ?_) (fun zt6 hzt6 => ?_)
  · by_cases ht168 : (i5 &&& (8 : Int32)) = (0 : Int32)
    · have hc55 : (i5 &&& (8 : Int32)) = (0 : Int32) := ht168
      refine own_go (U' := s₁.setTop (mkF m 186 (lc10 i0 i1 i2 i3 i4 i5 z1 zt1 z3 zt2 z5 z6 zt3 zt4 z7 z8 zt5) [(.int ((((i4.toUInt32 >>> ((8 : Int32) &&& 31).toUInt32).toInt32) &&& (255 : Int32)).toUInt32.toUInt16.toUInt32.toInt32))])) (fun t k => oifY (pc := 168) X0 hx hby at_168 176 ((if0 _ _).trans (teq hc55).1) (by decide) (oiload X0 hx hby at_176 rfl (obipush X0 hx hby at_178 (oiushr X0 hx hby at_180 (osipush X0 hx hby at_181 (oiand X0 hx hby at_184 (oi2c X0 hx hby at_185 k))))))) ?_
      have hc57 : ¬ ((((i4.toUInt32 >>> ((8 : Int32) &&& 31).toUInt32).toInt32) &&& (255 : Int32)) < (0 : Int32)) := (fun e => by have := Int32.lt_iff_toInt_lt.mp e; have := c_and ((i4.toUInt32 >>> ((8 : Int32) &&& 31).toUInt32).toInt32) (255 : Int32) (by decide); have := (by decide : ((255 : Int32)).toInt = 255); have := (by decide : ((0 : Int32)).toInt = 0); omega)
      have hc58 : (((i4.toUInt32 >>> ((8 : Int32) &&& 31).toUInt32).toInt32) &&& (255 : Int32)) < (65536 : Int32) := (Int32.lt_iff_toInt_lt.mpr (by have := c_and ((i4.toUInt32 >>> ((8 : Int32) &&& 31).toUInt32).toInt32) (255 : Int32) (by decide); have := (by decide : ((255 : Int32)).toInt = 255); have := (by decide : ((65536 : Int32)).toInt = 65536); omega))
      rw [own_i2c (x := (((i4.toUInt32 >>> ((8 : Int32) &&& 31).toUInt32).toInt32) &&& (255 : Int32))) hc57 hc58]
      have hc59 : (((i4.toUInt32 >>> ((8 : Int32) &&& 31).toUInt32).toInt32) &&& (255 : Int32)) < (256 : Int32) := (Int32.lt_iff_toInt_lt.mpr (by have := c_and ((i4.toUInt32 >>> ((8 : Int32) &&& 31).toUInt32).toInt32) (255 : Int32) (by decide); have := (by decide : ((255 : Int32)).toInt = 255); have := (by decide : ((256 : Int32)).toInt = 256); omega))
      exact K _ ⟨hc57, hc59⟩
    · have hc60 : ¬ ((i5 &&& (8 : Int32)) = (0 : Int32)) := ht168
      refine own_go (U' := s₁.setTop (mkF m 186 (lc10 i0 i1 i2 i3 i4 i5 z1 zt1 z3 zt2 z5 z6 zt3 zt4 z7 z8 zt5) [(.int z8)])) (fun t k => oifN X0 hx hby at_168 ((if0 _ _).trans (feq hc60).1) (oiload X0 hx hby at_171 rfl (ogoto (pc := 173) X0 hx hby at_173 186 (by decide) k))) ?_
      have hc45 : ¬ ((((i3.toUInt32 >>> ((8 : Int32) &&& 31).toUInt32).toInt32) &&& (255 : Int32)) < (0 : Int32)) := (fun e => by have := Int32.lt_iff_toInt_lt.mp e; have := c_and ((i3.toUInt32 >>> ((8 : Int32) &&& 31).toUInt32).toInt32) (255 : Int32) (by decide); have := (by decide : ((255 : Int32)).toInt = 255); have := (by decide : ((0 : Int32)).toInt = 0); omega)
      have hs61 : ¬ (z8 < (0 : Int32)) := by rw [hz8]; exact hc45
      have hc62 : (((i3.toUInt32 >>> ((8 : Int32) &&& 31).toUInt32).toInt32) &&& (255 : Int32)) < (256 : Int32) := (Int32.lt_iff_toInt_lt.mpr (by have := c_and ((i3.toUInt32 >>> ((8 : Int32) &&& 31).toUInt32).toInt32) (255 : Int32) (by decide); have := (by decide : ((255 : Int32)).toInt = 255); have := (by decide : ((256 : Int32)).toInt = 256); omega))
      have hs63 : z8 < (256 : Int32) := by rw [hz8]; exact hc62
      exact K _ ⟨hs61, hs63⟩
  refine own_go (U' := s₁.setTop (mkF m 193 (lc11 i0 i1 i2 i3 i4 i5 z1 zt1 z3 zt2 z5 z6 zt3 zt4 z7 z8 zt5 zt6) [(.int (i0 &&& (256 : Int32)))])) (fun t k => oistore X0 hx hby at_186 (lc11 i0 i1 i2 i3 i4 i5 z1 zt1 z3 zt2 z5 z6 zt3 zt4 z7 z8 zt5 zt6) rfl (oiloadN X0 hx hby at_188 rfl (osipush X0 hx hby at_189 (oiand X0 hx hby at_192 k)))) ?_
  refine own_tern (F := fun zt7 => s₁.setTop (mkF m 201 (lc11 i0 i1 i2 i3 i4 i5 z1 zt1 z3 zt2 z5 z6 zt3 zt4 z7 z8 zt5 zt6) [(.int zt7)])) (N := 2) (fun K => ?_) (fun zt7 hzt7 => ?_)
  · by_cases ht193 : (i0 &&& (256 : Int32)) = (0 : Int32)
    · have hc64 : (i0 &&& (256 : Int32)) = (0 : Int32) := ht193
      refine own_go (U' := s₁.setTop (mkF m 201 (lc11 i0 i1 i2 i3 i4 i5 z1 zt1 z3 zt2 z5 z6 zt3 zt4 z7 z8 zt5 zt6) [(.int 0)])) (fun t k => oifY (pc := 193) X0 hx hby at_193 200 ((if0 _ _).trans (teq hc64).1) (by decide) (oiconst X0 hx hby at_200 k)) ?_
      exact K _ ⟨(by decide), (by decide)⟩
    · have hc65 : ¬ ((i0 &&& (256 : Int32)) = (0 : Int32)) := ht193
      refine own_go (U' := s₁.setTop (mkF m 201 (lc11 i0 i1 i2 i3 i4 i5 z1 zt1 z3 zt2 z5 z6 zt3 zt4 z7 z8 zt5 zt6) [(.int 1)])) (fun t k => oifN X0 hx hby at_193 ((if0 _ _).trans (feq hc65).1) (oiconst X0 hx hby at_196 (ogoto (pc := 197) X0 hx hby at_197 201 (by decide) k))) ?_
      exact K _ ⟨(by decide), (by decide)⟩
  refine own_go (U' := s₁.setTop (mkF m 209 (lc12 i0 i1 i2 i3 i4 i5 z1 zt1 z3 zt2 z5 z6 zt3 zt4 z7 z8 zt5 zt6 zt7) [(.int (i5 &&& (1024 : Int32)))])) (fun t k => oistore X0 hx hby at_201 (lc12 i0 i1 i2 i3 i4 i5 z1 zt1 z3 zt2 z5 z6 zt3 zt4 z7 z8 zt5 zt6 zt7) rfl (oiload X0 hx hby at_203 rfl (osipush X0 hx hby at_205 (oiand X0 hx hby at_208 k)))) ?_
  refine own_tern (F := fun zt8 => s₁.setTop (mkF m 230 (lc12 i0 i1 i2 i3 i4 i5 z1 zt1 z3 zt2 z5 z6 zt3 zt4 z7 z8 zt5 zt6 zt7) [(.int zt8)])) (N := 2) (fun K => ?_) (fun zt8 hzt8 => ?_)
  · by_cases ht209 : (i5 &&& (1024 : Int32)) = (0 : Int32)
    · have hc66 : (i5 &&& (1024 : Int32)) = (0 : Int32) := ht209
      refine own_go (U' := s₁.setTop (mkF m 222 (lc12 i0 i1 i2 i3 i4 i5 z1 zt1 z3 zt2 z5 z6 zt3 zt4 z7 z8 zt5 zt6 zt7) [(.int (i0 &&& (512 : Int32)))])) (fun t k => oifY (pc := 209) X0 hx hby at_209 217 ((if0 _ _).trans (teq hc66).1) (by decide) (oiloadN X0 hx hby at_217 rfl (osipush X0 hx hby at_218 (oiand X0 hx hby at_221 k)))) ?_
      by_cases ht222 : (i0 &&& (512 : Int32)) = (0 : Int32)
      · have hc67 : (i0 &&& (512 : Int32)) = (0 : Int32) := ht222
        refine own_go (U' := s₁.setTop (mkF m 230 (lc12 i0 i1 i2 i3 i4 i5 z1 zt1 z3 zt2 z5 z6 zt3 zt4 z7 z8 zt5 zt6 zt7) [(.int 0)])) (fun t k => oifY (pc := 222) X0 hx hby at_222 229 ((if0 _ _).trans (teq hc67).1) (by decide) (oiconst X0 hx hby at_229 k)) ?_
        exact K _ ⟨(by decide), (by decide)⟩
      · have hc68 : ¬ ((i0 &&& (512 : Int32)) = (0 : Int32)) := ht222
        refine own_go (U' := s₁.setTop (mkF m 230 (lc12 i0 i1 i2 i3 i4 i5 z1 zt1 z3 zt2 z5 z6 zt3 zt4 z7 z8 zt5 zt6 zt7) [(.int 1)])) (fun t k => oifN X0 hx hby at_222 ((if0 _ _).trans (feq hc68).1) (oiconst X0 hx hby at_225 (ogoto (pc := 226) X0 hx hby at_226 230 (by decide) k))) ?_
        exact K _ ⟨(by decide), (by decide)⟩
    · have hc69 : ¬ ((i5 &&& (1024 : Int32)) = (0 : Int32)) := ht209
      refine own_go (U' := s₁.setTop (mkF m 230 (lc12 i0 i1 i2 i3 i4 i5 z1 zt1 z3 zt2 z5 z6 zt3 zt4 z7 z8 zt5 zt6 zt7) [(.int zt7)])) (fun t k => oifN X0 hx hby at_209 ((if0 _ _).trans (feq hc69).1) (oiload X0 hx hby at_212 rfl (ogoto (pc := 214) X0 hx hby at_214 230 (by decide) k))) ?_
      exact K _ ⟨hzt7.1, hzt7.2⟩
  have hc20 : ¬ ((i1 &&& (255 : Int32)) < (0 : Int32)) := (fun e => by have := Int32.lt_iff_toInt_lt.mp e; have := c_and i1 (255 : Int32) (by decide); have := (by decide : ((255 : Int32)).toInt = 255); have := (by decide : ((0 : Int32)).toInt = 0); omega)
  have hs30 : ¬ (z5 < (0 : Int32)) := by rw [hz5]; exact hc20
  have hc21 : (i1 &&& (255 : Int32)) < (65536 : Int32) := (Int32.lt_iff_toInt_lt.mpr (by have := c_and i1 (255 : Int32) (by decide); have := (by decide : ((255 : Int32)).toInt = 255); have := (by decide : ((65536 : Int32)).toInt = 65536); omega))
  have hs70 : z5 < (65536 : Int32) := by rw [hz5]; exact hc21
  have hc71 : ¬ (ci0 = (0 : Int32)) := hci0
  have hc72 : ¬ ((255 : Int32) < (i1 &&& (255 : Int32))) := (fun e => by have := Int32.lt_iff_toInt_lt.mp e; have := (by decide : ((255 : Int32)).toInt = 255); have := c_and i1 (255 : Int32) (by decide); omega)
  have hs73 : ¬ ((255 : Int32) < z5) := by rw [hz5]; exact hc72
  have hc23 : ¬ ((((i1.toUInt32 >>> ((8 : Int32) &&& 31).toUInt32).toInt32) &&& (255 : Int32)) < (0 : Int32)) := (fun e => by have := Int32.lt_iff_toInt_lt.mp e; have := c_and ((i1.toUInt32 >>> ((8 : Int32) &&& 31).toUInt32).toInt32) (255 : Int32) (by decide); have := (by decide : ((255 : Int32)).toInt = 255); have := (by decide : ((0 : Int32)).toInt = 0); omega)
  have hs39 : ¬ (z6 < (0 : Int32)) := by rw [hz6]; exact hc23
  have hc24 : (((i1.toUInt32 >>> ((8 : Int32) &&& 31).toUInt32).toInt32) &&& (255 : Int32)) < (65536 : Int32) := (Int32.lt_iff_toInt_lt.mpr (by have := c_and ((i1.toUInt32 >>> ((8 : Int32) &&& 31).toUInt32).toInt32) (255 : Int32) (by decide); have := (by decide : ((255 : Int32)).toInt = 255); have := (by decide : ((65536 : Int32)).toInt = 65536); omega))
  have hs74 : z6 < (65536 : Int32) := by rw [hz6]; exact hc24
  have hc75 : ¬ ((255 : Int32) < (((i1.toUInt32 >>> ((8 : Int32) &&& 31).toUInt32).toInt32) &&& (255 : Int32))) := (fun e => by have := Int32.lt_iff_toInt_lt.mp e; have := (by decide : ((255 : Int32)).toInt = 255); have := c_and ((i1.toUInt32 >>> ((8 : Int32) &&& 31).toUInt32).toInt32) (255 : Int32) (by decide); omega)
  have hs76 : ¬ ((255 : Int32) < z6) := by rw [hz6]; exact hc75
  have hc6 : ¬ (((i0 &&& (3 : Int32)) % (3 : Int32)) < (0 : Int32)) := (fun e => by have := Int32.lt_iff_toInt_lt.mp e; have := c_and i0 (3 : Int32) (by decide); have := (by decide : ((3 : Int32)).toInt = 3); have := c_irem (i0 &&& (3 : Int32)) (3 : Int32) 3 (by decide); have := Int.emod_nonneg ((i0 &&& (3 : Int32))).toInt (show (3 : Int) ≠ 0 by decide); have := Int.emod_lt_of_pos ((i0 &&& (3 : Int32))).toInt (show (0 : Int) < 3 by decide); have := (by decide : ((0 : Int32)).toInt = 0); omega)
  have hs7 : ¬ (z1 < (0 : Int32)) := by rw [hz1]; exact hc6
  have hc8 : ((i0 &&& (3 : Int32)) % (3 : Int32)) < (3 : Int32) := (Int32.lt_iff_toInt_lt.mpr (by have := c_and i0 (3 : Int32) (by decide); have := (by decide : ((3 : Int32)).toInt = 3); have := c_irem (i0 &&& (3 : Int32)) (3 : Int32) 3 (by decide); have := Int.emod_nonneg ((i0 &&& (3 : Int32))).toInt (show (3 : Int) ≠ 0 by decide); have := Int.emod_lt_of_pos ((i0 &&& (3 : Int32))).toInt (show (0 : Int) < 3 by decide); omega))
  have hs9 : z1 < (3 : Int32) := by rw [hz1]; exact hc8
  obtain ⟨_, Tr1, Lr1, Xr1, hQr1, hSr1, hZ, hown, CRr1, str1⟩ := ocallSH (s := s) (vm0 := s.vm) X0 hx hZ zm5 hown (ww hw 0 rfl) (ww hw 1 rfl) (by decide) (ww hw 3 rfl) (ww hw 2 rfl) e0 (mg1_15 l hw z1 z5 z6 ci0 h0 n0 Z0 hs30 hs70 S8 hc71 hs73 hs39 hs74 hs76 hs7 hs9) (st := [(.int z6), (.int z5), (.int z1)]) rfl 0 rfl (by decide) (pc := 238) (Ls := (lc13 i0 i1 i2 i3 i4 i5 z1 zt1 z3 zt2 z5 z6 zt3 zt4 z7 z8 zt5 zt6 zt7 zt8)) hml rfl (lenOf pd_5 rfl) at_238 hby ((State.WarmedH.refl s).since 0) (Nat.zero_le _) (own_EW hw) C0.1 all0
  obtain ⟨b1, rfl, Nr1q, Kr1, sz1, f1⟩ := hQr1
  have C1 := C0.trans CRr1
  have N1 := Fr.app N0 Nr1q
  obtain ⟨Tr2, hr2, Xr2, er2, Er2, Ar2, Dr2, -, str2⟩ := newO Xr1 hx hZ hown (ww hw 26 rfl) (ww hw 27 rfl) (ww hw 28 rfl) rfl (g := (mkF m 243 (lc25 i0 i1 i2 i3 i4 i5 z1 zt1 z3 zt2 z5 z6 zt3 zt4 z7 z8 zt5 zt6 zt7 zt8 b1) [])) rfl (hb hby at_243) (by decide) (by decide)
  obtain ⟨br2, gr2⟩ : ∃ z, z = Tr1.heap.size := ⟨_, rfl⟩
  rw [← gr2] at Ar2 Dr2 str2
  have C2 := C1.trans (CHr.ext Er2 C1.1)
  have f2 : Fld Z hr2 br2 zs17 "kind" zs11 .null := Dr2 (Or.inr (ww hw 47 rfl)) (ty := (.object zs10)) (by decide)
  have f3 : Fld Z hr2 br2 zs17 "id" zs18 .null := Dr2 (Or.inr (ww hw 51 rfl)) (ty := (.object zs0)) (by decide)
  have f4 : Fld Z hr2 br2 zs17 "version" zs18 .null := Dr2 (Or.inr (ww hw 54 rfl)) (ty := (.object zs0)) (by decide)
  have f5 : Sta Z hr2 zs10 "POLICY" zs11 (.ref w0) := (Sta.ext Er2 (own_staK S0 Kr1 all0))
  have f6 : Sta Z hr2 zs10 zs12 zs11 (.ref w1) := (Sta.ext Er2 (own_staK S2 Kr1 all0))
  have Z_1 : n0 ≤ Tr1.heap.size := Nat.le_trans Z0 Kr1.1
  have Z_2 : n0 ≤ hr2.size := Nat.le_trans Z_1 Er2.1
  obtain ⟨_, Tr3, Lr3, Xr3, hQr3, str3⟩ := ocallS Xr2 hx hZ zm6 hown (ww hw 29 rfl) (ww hw 30 rfl) (by decide) (ww hw 31 rfl) (ww hw 2 rfl) er2 (mg5_18 l hw zt7 w0 w1 hr2 n0 Z_2 f5 f6) (st := [(.int zt7), (.ref br2), (.ref br2)]) rfl 2 rfl (by decide) (pc := 249) (Ls := (lc25 i0 i1 i2 i3 i4 i5 z1 zt1 z3 zt2 z5 z6 zt3 zt4 z7 z8 zt5 zt6 zt7 zt8 b1)) hml rfl (lenOf pd_6 rfl) at_249 hby
  obtain ⟨rfl, Nr3q, er3⟩ := hQr3
  refine own_go (U' := Tr3.setTop (mkF m 252 (lc25 i0 i1 i2 i3 i4 i5 z1 zt1 z3 zt2 z5 z6 zt3 zt4 z7 z8 zt5 zt6 zt7 zt8 b1) [(.ref (own_kd zt7 w0 w1)), (.ref br2), (.ref br2)])) (fun t k => oistore X0 hx hby at_230 (lc13 i0 i1 i2 i3 i4 i5 z1 zt1 z3 zt2 z5 z6 zt3 zt4 z7 z8 zt5 zt6 zt7 zt8) rfl (oiload X0 hx hby at_232 rfl (oiload X0 hx hby at_234 rfl (oiload X0 hx hby at_236 rfl (str1 _ (oastore Xr1 hx hby at_241 (lc25 i0 i1 i2 i3 i4 i5 z1 zt1 z3 zt2 z5 z6 zt3 zt4 z7 z8 zt5 zt6 zt7 zt8 b1) rfl rfl (str2 _ (odup Xr2 hx hby at_246 rfl (oiload Xr2 hx hby at_247 rfl (str3 _ k)))))))))) ?_
  obtain ⟨u1, hu1⟩ : ∃ z, z = (own_kd zt7 w0 w1) := ⟨_, rfl⟩
  rw [← hu1]
  have f8 : Exa Z hr2 w0 zs10 := (Exa.ext Er2 (S1.keep Kr1))
  have f9 : Exa Z hr2 w1 zs10 := (Exa.ext Er2 (S3.keep Kr1))
  have f7 : Exa Z hr2 u1 zs10 := by rw [hu1]; exact own_kd_E f8 f9
  have N2 := Fr.app N1 Nr3q
  have f10 : Sta Z hr2 zs0 zs7 "Z" (.int ci0) := (Sta.ext Er2 (own_staK S8 Kr1 all0))
  have hc42 : ¬ ((i3 &&& (255 : Int32)) < (0 : Int32)) := (fun e => by have := Int32.lt_iff_toInt_lt.mp e; have := c_and i3 (255 : Int32) (by decide); have := (by decide : ((255 : Int32)).toInt = 255); have := (by decide : ((0 : Int32)).toInt = 0); omega)
  have hs52 : ¬ (z7 < (0 : Int32)) := by rw [hz7]; exact hc42
  have hc43 : (i3 &&& (255 : Int32)) < (65536 : Int32) := (Int32.lt_iff_toInt_lt.mpr (by have := c_and i3 (255 : Int32) (by decide); have := (by decide : ((255 : Int32)).toInt = 255); have := (by decide : ((65536 : Int32)).toInt = 65536); omega))
  have hs77 : z7 < (65536 : Int32) := by rw [hz7]; exact hc43
  have hc78 : ¬ ((255 : Int32) < (i3 &&& (255 : Int32))) := (fun e => by have := Int32.lt_iff_toInt_lt.mp e; have := (by decide : ((255 : Int32)).toInt = 255); have := c_and i3 (255 : Int32) (by decide); omega)
  have hs79 : ¬ ((255 : Int32) < z7) := by rw [hz7]; exact hc78
  have hc45 : ¬ ((((i3.toUInt32 >>> ((8 : Int32) &&& 31).toUInt32).toInt32) &&& (255 : Int32)) < (0 : Int32)) := (fun e => by have := Int32.lt_iff_toInt_lt.mp e; have := c_and ((i3.toUInt32 >>> ((8 : Int32) &&& 31).toUInt32).toInt32) (255 : Int32) (by decide); have := (by decide : ((255 : Int32)).toInt = 255); have := (by decide : ((0 : Int32)).toInt = 0); omega)
  have hs61 : ¬ (z8 < (0 : Int32)) := by rw [hz8]; exact hc45
  have hc46 : (((i3.toUInt32 >>> ((8 : Int32) &&& 31).toUInt32).toInt32) &&& (255 : Int32)) < (65536 : Int32) := (Int32.lt_iff_toInt_lt.mpr (by have := c_and ((i3.toUInt32 >>> ((8 : Int32) &&& 31).toUInt32).toInt32) (255 : Int32) (by decide); have := (by decide : ((255 : Int32)).toInt = 255); have := (by decide : ((65536 : Int32)).toInt = 65536); omega))
  have hs80 : z8 < (65536 : Int32) := by rw [hz8]; exact hc46
  have hc81 : ¬ ((255 : Int32) < (((i3.toUInt32 >>> ((8 : Int32) &&& 31).toUInt32).toInt32) &&& (255 : Int32))) := (fun e => by have := Int32.lt_iff_toInt_lt.mp e; have := (by decide : ((255 : Int32)).toInt = 255); have := c_and ((i3.toUInt32 >>> ((8 : Int32) &&& 31).toUInt32).toInt32) (255 : Int32) (by decide); omega)
  have hs82 : ¬ ((255 : Int32) < z8) := by rw [hz8]; exact hc81
  have hc16 : ¬ (((((i0.toUInt32 >>> ((4 : Int32) &&& 31).toUInt32).toInt32) &&& (3 : Int32)) % (3 : Int32)) < (0 : Int32)) := (fun e => by have := Int32.lt_iff_toInt_lt.mp e; have := c_and ((i0.toUInt32 >>> ((4 : Int32) &&& 31).toUInt32).toInt32) (3 : Int32) (by decide); have := (by decide : ((3 : Int32)).toInt = 3); have := c_irem (((i0.toUInt32 >>> ((4 : Int32) &&& 31).toUInt32).toInt32) &&& (3 : Int32)) (3 : Int32) 3 (by decide); have := Int.emod_nonneg ((((i0.toUInt32 >>> ((4 : Int32) &&& 31).toUInt32).toInt32) &&& (3 : Int32))).toInt (show (3 : Int) ≠ 0 by decide); have := Int.emod_lt_of_pos ((((i0.toUInt32 >>> ((4 : Int32) &&& 31).toUInt32).toInt32) &&& (3 : Int32))).toInt (show (0 : Int) < 3 by decide); have := (by decide : ((0 : Int32)).toInt = 0); omega)
  have hs17 : ¬ (z3 < (0 : Int32)) := by rw [hz3]; exact hc16
  have hc18 : ((((i0.toUInt32 >>> ((4 : Int32) &&& 31).toUInt32).toInt32) &&& (3 : Int32)) % (3 : Int32)) < (3 : Int32) := (Int32.lt_iff_toInt_lt.mpr (by have := c_and ((i0.toUInt32 >>> ((4 : Int32) &&& 31).toUInt32).toInt32) (3 : Int32) (by decide); have := (by decide : ((3 : Int32)).toInt = 3); have := c_irem (((i0.toUInt32 >>> ((4 : Int32) &&& 31).toUInt32).toInt32) &&& (3 : Int32)) (3 : Int32) 3 (by decide); have := Int.emod_nonneg ((((i0.toUInt32 >>> ((4 : Int32) &&& 31).toUInt32).toInt32) &&& (3 : Int32))).toInt (show (3 : Int) ≠ 0 by decide); have := Int.emod_lt_of_pos ((((i0.toUInt32 >>> ((4 : Int32) &&& 31).toUInt32).toInt32) &&& (3 : Int32))).toInt (show (0 : Int) < 3 by decide); omega))
  have hs19 : z3 < (3 : Int32) := by rw [hz3]; exact hc18
  obtain ⟨_, Tr4, Lr4, Xr4, hQr4, hSr4, hZ, hown, CRr4, str4⟩ := ocallSH (s := s) Xr3 hx hZ zm5 hown (ww hw 0 rfl) (ww hw 1 rfl) (by decide) (ww hw 3 rfl) (ww hw 2 rfl) er3 (mg1_15 l hw z3 z7 z8 ci0 hr2 n0 Z_2 hs52 hs77 f10 hc71 hs79 hs61 hs80 hs82 hs17 hs19) (st := [(.int z8), (.int z7), (.int z3), (.ref b1), (.ref u1), (.ref br2), (.ref br2)]) rfl 4 rfl (by decide) (pc := 260) (Ls := (lc25 i0 i1 i2 i3 i4 i5 z1 zt1 z3 zt2 z5 z6 zt3 zt4 z7 z8 zt5 zt6 zt7 zt8 b1)) hml rfl (lenOf pd_5 rfl) at_260 hby hSr1 (Nat.le_trans (Nat.le_refl _) Er2.1) (own_EW hw) C2.1 all0
  obtain ⟨b2, rfl, Nr4q, Kr4, sz2, f11⟩ := hQr4
  have C3 := C2.trans CRr4
  have N3 := Fr.app N2 Nr4q
  have f12 : Exa Z Tr4.heap u1 zs10 := (f7.keep Kr4)
  have f13 : Fld Z Tr4.heap br2 zs17 "kind" zs11 .null := (f2.keep Kr4 nin0)
  have f14 : Fld Z Tr4.heap br2 zs17 "id" zs18 .null := (f3.keep Kr4 nin0)
  have f15 : Fld Z Tr4.heap br2 zs17 "version" zs18 .null := (f4.keep Kr4 nin0)
  have f16 : Exa Z Tr4.heap br2 zs17 := (Ar2.keep Kr4)
  have g1 : n0 ≤ br2 := Nat.le_trans Z_1 (Nat.le_of_eq gr2.symm)
  have f17 : own_Str Z Tr4.heap b1 z1 z5 z6 := (own_Str.keep (own_Str.ext f1 Er2) Kr4 all0)
  have Z_3 : n0 ≤ Tr4.heap.size := Nat.le_trans Z_2 Kr4.1
  obtain ⟨_, Tr5, Lr5, Xr5, hQr5, hSr5, hZ, hown, CRr5, str5⟩ := ocallIH (s := s) Xr4 hx hZ zm8 rfl hown (ww hw 35 rfl) (ww hw 36 rfl) (by decide) (ww hw 37 rfl) (ww hw 28 rfl) rfl (rm6_20 l hw br2 u1 b1 b2 z1 z5 z6 z3 z7 z8 Tr4.heap n0 Z_3 f12 f13 f14 f15 f16 g1 f17 f11) (st := [(.ref b2), (.ref b1), (.ref u1), (.ref br2), (.ref br2)]) rfl 1 rfl (by decide) (pc := 263) (Ls := (lc25 i0 i1 i2 i3 i4 i5 z1 zt1 z3 zt2 z5 z6 zt3 zt4 z7 z8 zt5 zt6 zt7 zt8 b1)) hml rfl (lenOf pd_8 rfl) at_263 hby hSr4 (Nat.le_refl _) (own_EW hw) C3.1 all0
  obtain ⟨rfl, Nr5q, Kr5, f18, f19, f20⟩ := hQr5
  have C4 := C3.trans CRr5
  have N4 := Fr.app N3 Nr5q
  refine own_go (U' := Tr5.setTop (mkF m 277 (lc29 i0 i1 i2 i3 i4 i5 z1 zt1 z3 zt2 z5 z6 zt3 zt4 z7 z8 zt5 zt6 zt7 zt8 b1 br2 (((i5.toUInt32 >>> ((12 : Int32) &&& 31).toUInt32).toInt32) &&& (3 : Int32))) [])) (fun t k => oaload Xr3 hx hby at_252 rfl rfl (oiload Xr3 hx hby at_254 rfl (oiload Xr3 hx hby at_256 rfl (oiload Xr3 hx hby at_258 rfl (str4 _ (str5 _ (oastore Xr5 hx hby at_266 (lc28 i0 i1 i2 i3 i4 i5 z1 zt1 z3 zt2 z5 z6 zt3 zt4 z7 z8 zt5 zt6 zt7 zt8 b1 br2) rfl rfl (oiload Xr5 hx hby at_268 rfl (obipush Xr5 hx hby at_270 (oiushr Xr5 hx hby at_272 (oiconst Xr5 hx hby at_273 (oiand Xr5 hx hby at_274 (oistore Xr5 hx hby at_275 (lc29 i0 i1 i2 i3 i4 i5 z1 zt1 z3 zt2 z5 z6 zt3 zt4 z7 z8 zt5 zt6 zt7 zt8 b1 br2 (((i5.toUInt32 >>> ((12 : Int32) &&& 31).toUInt32).toInt32) &&& (3 : Int32))) rfl k))))))))))))) ?_
  obtain ⟨z9, hz9⟩ : ∃ z, z = (((i5.toUInt32 >>> ((12 : Int32) &&& 31).toUInt32).toInt32) &&& (3 : Int32)) := ⟨_, rfl⟩
  rw [← hz9]
  refine own_go (U' := Tr5.setTop (mkF m 279 (lc29 i0 i1 i2 i3 i4 i5 z1 zt1 z3 zt2 z5 z6 zt3 zt4 z7 z8 zt5 zt6 zt7 zt8 b1 br2 z9) [(.int z9)])) (fun t k => oiload Xr5 hx hby at_277 rfl k) ?_
  by_cases hk1 : (((i5.toUInt32 >>> ((12 : Int32) &&& 31).toUInt32).toInt32) &&& (3 : Int32)) = (0 : Int32)
  · have f21 : Exa Z Tr5.heap br2 zs17 := (f16.keep Kr5)
    have Z_4 : n0 ≤ Tr5.heap.size := Nat.le_trans Z_3 Kr5.1
    obtain ⟨_, Tr6, Lr6, Xr6, hQr6, str6⟩ := ocallV Xr5 hx hZ zm9 zm9 hown (ww hw 55 rfl) (ww hw 56 rfl) (notFace_of_selects (args := #[]) (mvT hZ (ww hw 58 rfl))) (ww hw 58 rfl) (ww hw 57 rfl) (by decide) (ww hw 59 rfl) (ww hw 28 rfl) rfl f21 (rm8_21 l hw br2 Tr5.heap n0 Z_4 ) (st := [.null, (.ref br2)]) rfl 0 rfl (by decide) (pc := 285) (Ls := (lc29 i0 i1 i2 i3 i4 i5 z1 zt1 z3 zt2 z5 z6 zt3 zt4 z7 z8 zt5 zt6 zt7 zt8 b1 br2 z9)) hml rfl (lenOf pd_9 rfl) at_285 hby
    obtain ⟨rfl, Nr6q, er6⟩ := hQr6
    have N5 := Fr.app N4 Nr6q
    have hc83 : (((i5.toUInt32 >>> ((12 : Int32) &&& 31).toUInt32).toInt32) &&& (3 : Int32)) = (0 : Int32) := hk1
    have hs84 : z9 = (0 : Int32) := by rw [hz9]; exact hc83
    refine own_go (U' := Tr6.setTop (mkF m 288 (lc29 i0 i1 i2 i3 i4 i5 z1 zt1 z3 zt2 z5 z6 zt3 zt4 z7 z8 zt5 zt6 zt7 zt8 b1 br2 z9) [(.int 0)])) (fun t k => oifN Xr5 hx hby at_279 ((if0 _ _).trans (teq hs84).2) (oaload Xr5 hx hby at_282 rfl rfl (onull Xr5 hx hby at_284 (str6 _ k)))) ?_
    refine own_go (U' := Tr6.setTop (mkF m 296 (lc29 i0 i1 i2 i3 i4 i5 z1 zt1 z3 zt2 z5 z6 zt3 zt4 z7 z8 zt5 zt6 zt7 zt8 b1 br2 z9) [(.int 1)])) (fun t k => oifN Xr6 hx hby at_288 (by decide) (oiconst Xr6 hx hby at_291 (ogoto (pc := 292) Xr6 hx hby at_292 296 (by decide) k))) ?_
    obtain ⟨fs, hr, hrun, hended, hW, hsame⟩ := Xr6.leave (v := some (.int 1)) (fun h => by rw [Bd.returns] at h; cases h)
    have hE := hSr5.ended hW (by show _ ≤ Tr6.heap.size; rw [er6]; exact (Nat.le_refl _)) hsame
    refine own_out ⟨_, _, ?_, hrun, hended, _, _, rfl, ?_, ?_, ⟨_, rfl⟩, hE.1, hE.2.1, hE.2.2.mono (by decide) (by decide)⟩
    · exact retN Xr6 hx (t := .boolean) Bd.returns (by simp) (hb hby at_296) hr
    · exact ⟨rfl, N5⟩
    · show CHr Z consts_1 s.vm s.heap Tr6.vm Tr6.heap; rw [hh, er6]; exact C4.trans (CHv.at (s := s) Xr6 hZ (own_EW hw) C4.1)
  · have hc85 : ¬ ((((i5.toUInt32 >>> ((12 : Int32) &&& 31).toUInt32).toInt32) &&& (3 : Int32)) = (0 : Int32)) := hk1
    have hs86 : ¬ (z9 = (0 : Int32)) := by rw [hz9]; exact hc85
    refine own_go (U' := Tr5.setTop (mkF m 300 (lc29 i0 i1 i2 i3 i4 i5 z1 zt1 z3 zt2 z5 z6 zt3 zt4 z7 z8 zt5 zt6 zt7 zt8 b1 br2 z9) [(.int 1), (.int z9)])) (fun t k => oifY (pc := 279) Xr5 hx hby at_279 297 ((if0 _ _).trans (feq hs86).2) (by decide) (oiload Xr5 hx hby at_297 rfl (oiconst Xr5 hx hby at_299 k))) ?_
    by_cases hk2 : (((i5.toUInt32 >>> ((12 : Int32) &&& 31).toUInt32).toInt32) &&& (3 : Int32)) = (1 : Int32)
    · have f21 : Sta Z Tr5.heap zs0 zs7 "Z" (.int ci0) := (own_staK (own_staK f10 Kr4 all0) Kr5 (allS (own_nsE f16) all0))
      have Z_4 : n0 ≤ Tr5.heap.size := Nat.le_trans Z_3 Kr5.1
      obtain ⟨_, Tr6, Lr6, Xr6, hQr6, hSr6, hZ, hown, CRr6, str6⟩ := ocallSH (s := s) Xr5 hx hZ zm5 hown (ww hw 0 rfl) (ww hw 1 rfl) (by decide) (ww hw 3 rfl) (ww hw 2 rfl) rfl (mg1_15 l hw z1 z5 z6 ci0 Tr5.heap n0 Z_4 hs30 hs70 f21 hc71 hs73 hs39 hs74 hs76 hs7 hs9) (st := [(.int z6), (.int z5), (.int z1)]) rfl 0 rfl (by decide) (pc := 309) (Ls := (lc29 i0 i1 i2 i3 i4 i5 z1 zt1 z3 zt2 z5 z6 zt3 zt4 z7 z8 zt5 zt6 zt7 zt8 b1 br2 z9)) hml rfl (lenOf pd_5 rfl) at_309 hby hSr5 (Nat.le_refl _) (own_EW hw) C4.1 all0
      obtain ⟨b3, rfl, Nr6q, Kr6, sz3, f22⟩ := hQr6
      have C5 := C4.trans CRr6
      have N5 := Fr.app N4 Nr6q
      have f23 : Exa Z Tr6.heap br2 zs17 := ((f16.keep Kr5).keep Kr6)
      have Z_5 : n0 ≤ Tr6.heap.size := Nat.le_trans Z_4 Kr6.1
      obtain ⟨_, Tr7, Lr7, Xr7, hQr7, str7⟩ := ocallV Xr6 hx hZ zm9 zm9 hown (ww hw 55 rfl) (ww hw 56 rfl) (notFace_of_selects (args := #[]) (mvT hZ (ww hw 58 rfl))) (ww hw 58 rfl) (ww hw 57 rfl) (by decide) (ww hw 59 rfl) (ww hw 28 rfl) rfl f23 (rm8_22 l hw br2 b3 z1 z5 z6 Tr6.heap n0 Z_5 f22) (st := [(.ref b3), (.ref br2)]) rfl 0 rfl (by decide) (pc := 318) (Ls := (lc32 i0 i1 i2 i3 i4 i5 z1 zt1 z3 zt2 z5 z6 zt3 zt4 z7 z8 zt5 zt6 zt7 zt8 b1 br2 z9 b3)) hml rfl (lenOf pd_9 rfl) at_318 hby
      obtain ⟨rfl, Nr7q, er7⟩ := hQr7
      have N6 := Fr.app N5 Nr7q
      have hc87 : (((i5.toUInt32 >>> ((12 : Int32) &&& 31).toUInt32).toInt32) &&& (3 : Int32)) = (1 : Int32) := hk2
      have hs88 : z9 = (1 : Int32) := by rw [hz9]; exact hc87
      refine own_go (U' := Tr7.setTop (mkF m 321 (lc32 i0 i1 i2 i3 i4 i5 z1 zt1 z3 zt2 z5 z6 zt3 zt4 z7 z8 zt5 zt6 zt7 zt8 b1 br2 z9 b3) [(.int 0)])) (fun t k => oicN Xr5 hx hby at_300 (teq hs88).2 (oiload Xr5 hx hby at_303 rfl (oiload Xr5 hx hby at_305 rfl (oiload Xr5 hx hby at_307 rfl (str6 _ (oastore Xr6 hx hby at_312 (lc32 i0 i1 i2 i3 i4 i5 z1 zt1 z3 zt2 z5 z6 zt3 zt4 z7 z8 zt5 zt6 zt7 zt8 b1 br2 z9 b3) rfl rfl (oaload Xr6 hx hby at_314 rfl rfl (oaload Xr6 hx hby at_316 rfl rfl (str7 _ k))))))))) ?_
      refine own_go (U' := Tr7.setTop (mkF m 329 (lc32 i0 i1 i2 i3 i4 i5 z1 zt1 z3 zt2 z5 z6 zt3 zt4 z7 z8 zt5 zt6 zt7 zt8 b1 br2 z9 b3) [(.int 1)])) (fun t k => oifN Xr7 hx hby at_321 (by decide) (oiconst Xr7 hx hby at_324 (ogoto (pc := 325) Xr7 hx hby at_325 329 (by decide) k))) ?_
      obtain ⟨fs, hr, hrun, hended, hW, hsame⟩ := Xr7.leave (v := some (.int 1)) (fun h => by rw [Bd.returns] at h; cases h)
      have hE := hSr6.ended hW (by show _ ≤ Tr7.heap.size; rw [er7]; exact (Nat.le_refl _)) hsame
      refine own_out ⟨_, _, ?_, hrun, hended, _, _, rfl, ?_, ?_, ⟨_, rfl⟩, hE.1, hE.2.1, hE.2.2.mono (by decide) (by decide)⟩
      · exact retN Xr7 hx (t := .boolean) Bd.returns (by simp) (hb hby at_329) hr
      · exact ⟨rfl, N6⟩
      · show CHr Z consts_1 s.vm s.heap Tr7.vm Tr7.heap; rw [hh, er7]; exact C5.trans (CHv.at (s := s) Xr7 hZ (own_EW hw) C5.1)
    · obtain ⟨Tr6, hr6, Xr6, er6, Er6, Ar6, Dr6, -, str6⟩ := newO Xr5 hx hZ hown (ww hw 26 rfl) (ww hw 27 rfl) (ww hw 28 rfl) rfl (g := (mkF m 330 (lc29 i0 i1 i2 i3 i4 i5 z1 zt1 z3 zt2 z5 z6 zt3 zt4 z7 z8 zt5 zt6 zt7 zt8 b1 br2 z9) [])) rfl (hb hby at_330) (by decide) (by decide)
      obtain ⟨br6, gr6⟩ : ∃ z, z = Tr5.heap.size := ⟨_, rfl⟩
      rw [← gr6] at Ar6 Dr6 str6
      have C5 := C4.trans (CHr.ext Er6 C4.1)
      have f21 : Fld Z hr6 br6 zs17 "kind" zs11 .null := Dr6 (Or.inr (ww hw 47 rfl)) (ty := (.object zs10)) (by decide)
      have f22 : Fld Z hr6 br6 zs17 "id" zs18 .null := Dr6 (Or.inr (ww hw 51 rfl)) (ty := (.object zs0)) (by decide)
      have f23 : Fld Z hr6 br6 zs17 "version" zs18 .null := Dr6 (Or.inr (ww hw 54 rfl)) (ty := (.object zs0)) (by decide)
      have f24 : Sta Z hr6 zs10 "POLICY" zs11 (.ref w0) := (Sta.ext Er6 (own_staK (own_staK f5 Kr4 all0) Kr5 (allS (own_nsE f16) all0)))
      have f25 : Sta Z hr6 zs10 zs12 zs11 (.ref w1) := (Sta.ext Er6 (own_staK (own_staK f6 Kr4 all0) Kr5 (allS (own_nsE f16) all0)))
      have Z_4 : n0 ≤ Tr5.heap.size := Nat.le_trans Z_3 Kr5.1
      have Z_5 : n0 ≤ hr6.size := Nat.le_trans Z_4 Er6.1
      obtain ⟨_, Tr7, Lr7, Xr7, hQr7, str7⟩ := ocallS Xr6 hx hZ zm6 hown (ww hw 29 rfl) (ww hw 30 rfl) (by decide) (ww hw 31 rfl) (ww hw 2 rfl) er6 (mg5_18 l hw zt8 w0 w1 hr6 n0 Z_5 f24 f25) (st := [(.int zt8), (.ref br6), (.ref br6)]) rfl 2 rfl (by decide) (pc := 336) (Ls := (lc29 i0 i1 i2 i3 i4 i5 z1 zt1 z3 zt2 z5 z6 zt3 zt4 z7 z8 zt5 zt6 zt7 zt8 b1 br2 z9)) hml rfl (lenOf pd_6 rfl) at_336 hby
      obtain ⟨rfl, Nr7q, er7⟩ := hQr7
      have hc89 : ¬ ((((i5.toUInt32 >>> ((12 : Int32) &&& 31).toUInt32).toInt32) &&& (3 : Int32)) = (1 : Int32)) := hk2
      have hs90 : ¬ (z9 = (1 : Int32)) := by rw [hz9]; exact hc89
      refine own_go (U' := Tr7.setTop (mkF m 339 (lc29 i0 i1 i2 i3 i4 i5 z1 zt1 z3 zt2 z5 z6 zt3 zt4 z7 z8 zt5 zt6 zt7 zt8 b1 br2 z9) [(.ref (own_kd zt8 w0 w1)), (.ref br6), (.ref br6)])) (fun t k => oicY (pc := 300) Xr5 hx hby at_300 330 (feq hs90).2 (by decide) (str6 _ (odup Xr6 hx hby at_333 rfl (oiload Xr6 hx hby at_334 rfl (str7 _ k))))) ?_
      obtain ⟨u2, hu2⟩ : ∃ z, z = (own_kd zt8 w0 w1) := ⟨_, rfl⟩
      rw [← hu2]
      have f27 : Exa Z hr6 w0 zs10 := (Exa.ext Er6 ((f8.keep Kr4).keep Kr5))
      have f28 : Exa Z hr6 w1 zs10 := (Exa.ext Er6 ((f9.keep Kr4).keep Kr5))
      have f26 : Exa Z hr6 u2 zs10 := by rw [hu2]; exact own_kd_E f27 f28
      have N5 := Fr.app N4 Nr7q
      have f29 : Sta Z hr6 zs0 zs7 "Z" (.int ci0) := (Sta.ext Er6 (own_staK (own_staK f10 Kr4 all0) Kr5 (allS (own_nsE f16) all0)))
      have hc91 : zt3 < (65536 : Int32) := (Int32.lt_iff_toInt_lt.mpr (by have := own_rgI hzt3 (by decide : (256 : Int32).toInt = 256); have := (by decide : ((65536 : Int32)).toInt = 65536); omega))
      have hc92 : ¬ ((255 : Int32) < zt3) := (fun e => by have := Int32.lt_iff_toInt_lt.mp e; have := (by decide : ((255 : Int32)).toInt = 255); have := own_rgI hzt3 (by decide : (256 : Int32).toInt = 256); omega)
      have hc93 : zt4 < (65536 : Int32) := (Int32.lt_iff_toInt_lt.mpr (by have := own_rgI hzt4 (by decide : (256 : Int32).toInt = 256); have := (by decide : ((65536 : Int32)).toInt = 65536); omega))
      have hc94 : ¬ ((255 : Int32) < zt4) := (fun e => by have := Int32.lt_iff_toInt_lt.mp e; have := (by decide : ((255 : Int32)).toInt = 255); have := own_rgI hzt4 (by decide : (256 : Int32).toInt = 256); omega)
      obtain ⟨_, Tr8, Lr8, Xr8, hQr8, hSr8, hZ, hown, CRr8, str8⟩ := ocallSH (s := s) Xr7 hx hZ zm5 hown (ww hw 0 rfl) (ww hw 1 rfl) (by decide) (ww hw 3 rfl) (ww hw 2 rfl) er7 (mg1_15 l hw zt1 zt3 zt4 ci0 hr6 n0 Z_5 hzt3.1 hc91 f29 hc71 hc92 hzt4.1 hc93 hc94 hzt1.1 hzt1.2) (st := [(.int zt4), (.int zt3), (.int zt1), (.ref u2), (.ref br6), (.ref br6)]) rfl 3 rfl (by decide) (pc := 345) (Ls := (lc29 i0 i1 i2 i3 i4 i5 z1 zt1 z3 zt2 z5 z6 zt3 zt4 z7 z8 zt5 zt6 zt7 zt8 b1 br2 z9)) hml rfl (lenOf pd_5 rfl) at_345 hby hSr5 (Nat.le_trans (Nat.le_refl _) Er6.1) (own_EW hw) C5.1 all0
      obtain ⟨b3, rfl, Nr8q, Kr8, sz3, f30⟩ := hQr8
      have C6 := C5.trans CRr8
      have N6 := Fr.app N5 Nr8q
      have f31 : Sta Z Tr8.heap zs0 zs7 "Z" (.int ci0) := (own_staK f29 Kr8 all0)
      have Z_6 : n0 ≤ Tr8.heap.size := Nat.le_trans Z_5 Kr8.1
      have hc95 : zt5 < (65536 : Int32) := (Int32.lt_iff_toInt_lt.mpr (by have := own_rgI hzt5 (by decide : (256 : Int32).toInt = 256); have := (by decide : ((65536 : Int32)).toInt = 65536); omega))
      have hc96 : ¬ ((255 : Int32) < zt5) := (fun e => by have := Int32.lt_iff_toInt_lt.mp e; have := (by decide : ((255 : Int32)).toInt = 255); have := own_rgI hzt5 (by decide : (256 : Int32).toInt = 256); omega)
      have hc97 : zt6 < (65536 : Int32) := (Int32.lt_iff_toInt_lt.mpr (by have := own_rgI hzt6 (by decide : (256 : Int32).toInt = 256); have := (by decide : ((65536 : Int32)).toInt = 65536); omega))
      have hc98 : ¬ ((255 : Int32) < zt6) := (fun e => by have := Int32.lt_iff_toInt_lt.mp e; have := (by decide : ((255 : Int32)).toInt = 255); have := own_rgI hzt6 (by decide : (256 : Int32).toInt = 256); omega)
      obtain ⟨_, Tr9, Lr9, Xr9, hQr9, hSr9, hZ, hown, CRr9, str9⟩ := ocallSH (s := s) Xr8 hx hZ zm5 hown (ww hw 0 rfl) (ww hw 1 rfl) (by decide) (ww hw 3 rfl) (ww hw 2 rfl) rfl (mg1_15 l hw zt2 zt5 zt6 ci0 Tr8.heap n0 Z_6 hzt5.1 hc95 f31 hc71 hc96 hzt6.1 hc97 hc98 hzt2.1 hzt2.2) (st := [(.int zt6), (.int zt5), (.int zt2), (.ref b3), (.ref u2), (.ref br6), (.ref br6)]) rfl 4 rfl (by decide) (pc := 354) (Ls := (lc29 i0 i1 i2 i3 i4 i5 z1 zt1 z3 zt2 z5 z6 zt3 zt4 z7 z8 zt5 zt6 zt7 zt8 b1 br2 z9)) hml rfl (lenOf pd_5 rfl) at_354 hby hSr8 (Nat.le_refl _) (own_EW hw) C6.1 all0
      obtain ⟨b4, rfl, Nr9q, Kr9, sz4, f32⟩ := hQr9
      have C7 := C6.trans CRr9
      have N7 := Fr.app N6 Nr9q
      have f33 : Exa Z Tr9.heap u2 zs10 := ((f26.keep Kr8).keep Kr9)
      have f34 : Fld Z Tr9.heap br6 zs17 "kind" zs11 .null := ((f21.keep Kr8 nin0).keep Kr9 nin0)
      have f35 : Fld Z Tr9.heap br6 zs17 "id" zs18 .null := ((f22.keep Kr8 nin0).keep Kr9 nin0)
      have f36 : Fld Z Tr9.heap br6 zs17 "version" zs18 .null := ((f23.keep Kr8 nin0).keep Kr9 nin0)
      have f37 : Exa Z Tr9.heap br6 zs17 := ((Ar6.keep Kr8).keep Kr9)
      have g2 : n0 ≤ br6 := Nat.le_trans Z_4 (Nat.le_of_eq gr6.symm)
      have f38 : own_Str Z Tr9.heap b3 zt1 zt3 zt4 := (own_Str.keep f30 Kr9 all0)
      have Z_7 : n0 ≤ Tr9.heap.size := Nat.le_trans Z_6 Kr9.1
      obtain ⟨_, Tr10, Lr10, Xr10, hQr10, hSr10, hZ, hown, CRr10, str10⟩ := ocallIH (s := s) Xr9 hx hZ zm8 rfl hown (ww hw 35 rfl) (ww hw 36 rfl) (by decide) (ww hw 37 rfl) (ww hw 28 rfl) rfl (rm6_20 l hw br6 u2 b3 b4 zt1 zt3 zt4 zt2 zt5 zt6 Tr9.heap n0 Z_7 f33 f34 f35 f36 f37 g2 f38 f32) (st := [(.ref b4), (.ref b3), (.ref u2), (.ref br6), (.ref br6)]) rfl 1 rfl (by decide) (pc := 357) (Ls := (lc29 i0 i1 i2 i3 i4 i5 z1 zt1 z3 zt2 z5 z6 zt3 zt4 z7 z8 zt5 zt6 zt7 zt8 b1 br2 z9)) hml rfl (lenOf pd_8 rfl) at_357 hby hSr9 (Nat.le_refl _) (own_EW hw) C7.1 all0
      obtain ⟨rfl, Nr10q, Kr10, f39, f40, f41⟩ := hQr10
      have C8 := C7.trans CRr10
      have N8 := Fr.app N7 Nr10q
      refine own_go (U' := Tr10.setTop (mkF m 366 (lc32 i0 i1 i2 i3 i4 i5 z1 zt1 z3 zt2 z5 z6 zt3 zt4 z7 z8 zt5 zt6 zt7 zt8 b1 br2 z9 br6) [(.int zt8), (.int zt7)])) (fun t k => oiload Xr7 hx hby at_339 rfl (oiload Xr7 hx hby at_341 rfl (oiload Xr7 hx hby at_343 rfl (str8 _ (oiload Xr8 hx hby at_348 rfl (oiload Xr8 hx hby at_350 rfl (oiload Xr8 hx hby at_352 rfl (str9 _ (str10 _ (oastore Xr10 hx hby at_360 (lc32 i0 i1 i2 i3 i4 i5 z1 zt1 z3 zt2 z5 z6 zt3 zt4 z7 z8 zt5 zt6 zt7 zt8 b1 br2 z9 br6) rfl rfl (oiload Xr10 hx hby at_362 rfl (oiload Xr10 hx hby at_364 rfl k)))))))))))) ?_
      by_cases hk3 : zt7 = zt8
      · have Z_8 : n0 ≤ Tr10.heap.size := Nat.le_trans Z_7 Kr10.1
        obtain ⟨_, Tr11, Lr11, Xr11, hQr11, str11⟩ := ocallS Xr10 hx hZ zm10 hown (ww hw 74 rfl) (ww hw 75 rfl) (by decide) (ww hw 76 rfl) (ww hw 2 rfl) rfl (mg12_29 l hw z1 z5 z6 zt1 zt3 zt4 Tr10.heap n0 Z_8 ) (st := [(.int zt4), (.int zt3), (.int zt1), (.int z6), (.int z5), (.int z1)]) rfl 0 rfl (by decide) (pc := 381) (Ls := (lc32 i0 i1 i2 i3 i4 i5 z1 zt1 z3 zt2 z5 z6 zt3 zt4 z7 z8 zt5 zt6 zt7 zt8 b1 br2 z9 br6)) hml rfl (lenOf pd_10 rfl) at_381 hby
        obtain ⟨rfl, Nr11q, er11⟩ := hQr11
        have N9 := Fr.app N8 Nr11q
        have hc99 : zt7 = zt8 := hk3
        refine own_go (U' := Tr11.setTop (mkF m 384 (lc32 i0 i1 i2 i3 i4 i5 z1 zt1 z3 zt2 z5 z6 zt3 zt4 z7 z8 zt5 zt6 zt7 zt8 b1 br2 z9 br6) [(.int (own_seq z1 z5 z6 zt1 zt3 zt4))])) (fun t k => oicN Xr10 hx hby at_366 (teq hc99).2 (oiload Xr10 hx hby at_369 rfl (oiload Xr10 hx hby at_371 rfl (oiload Xr10 hx hby at_373 rfl (oiload Xr10 hx hby at_375 rfl (oiload Xr10 hx hby at_377 rfl (oiload Xr10 hx hby at_379 rfl (str11 _ k)))))))) ?_
        by_cases hk4 : (own_seq ((i0 &&& (3 : Int32)) % (3 : Int32)) (i1 &&& (255 : Int32)) (((i1.toUInt32 >>> ((8 : Int32) &&& 31).toUInt32).toInt32) &&& (255 : Int32)) zt1 zt3 zt4) = (0 : Int32)
        · have f42 : Exa Z Tr10.heap br2 zs17 := ((((Exa.ext Er6 (f16.keep Kr5)).keep Kr8).keep Kr9).keep Kr10)
          have f43 : Exa Z Tr10.heap br6 zs17 := (f37.keep Kr10)
          have ne1 : br2 ≠ br6 := Nat.ne_of_lt (nlt (f18.lt) (Nat.le_of_eq gr6.symm))
          have f44 : Fld Z Tr10.heap br2 zs17 "kind" zs11 (.ref u1) := ((((Fld.ext Er6 f18).keep Kr8 nin0).keep Kr9 nin0).keep Kr10 (ninS ne1 nin0))
          have f45 : Fld Z Tr10.heap br2 zs17 "id" zs18 (.ref b1) := ((((Fld.ext Er6 f19).keep Kr8 nin0).keep Kr9 nin0).keep Kr10 (ninS ne1 nin0))
          have f46 : own_Str Z Tr10.heap b1 z1 z5 z6 := (own_Str.keep (own_Str.keep (own_Str.keep (own_Str.ext (own_Str.keep f17 Kr5 (allS ⟨_, _, a0, (Ar2.keep Kr4), by decide, (ww hw 27 rfl)⟩ all0)) Er6) Kr8 all0) Kr9 all0) Kr10 (allS ⟨_, _, a0, ((Ar6.keep Kr8).keep Kr9), by decide, (ww hw 27 rfl)⟩ all0))
          have ne2 : b1 ≠ b3 := Nat.ne_of_lt (nlt (nlt (nlt (nlt (nlt ((own_Str.E f1).lt) Er2.1) Kr4.1) Kr5.1) Er6.1) sz3)
          have f47 : own_Str Z Tr10.heap b3 zt1 zt3 zt4 := (own_Str.keep f38 Kr10 (allS ⟨_, _, a0, ((Ar6.keep Kr8).keep Kr9), by decide, (ww hw 27 rfl)⟩ all0))
          have f48 : Sta Z Tr10.heap zs0 zs7 "Z" (.int ci0) := (own_staK (own_staK f31 Kr9 all0) Kr10 (allS (own_nsE ((Ar6.keep Kr8).keep Kr9)) all0))
          have ha102 : (own_kd zt7 w0 w1) = (own_kd zt8 w0 w1) := (congrArg (fun z => own_kd z w0 w1) hk3)
          have hs103 : u1 = u2 := by rw [hu2, hu1]; exact ha102
          have hc31 : (i1 &&& (255 : Int32)) < (256 : Int32) := (Int32.lt_iff_toInt_lt.mpr (by have := c_and i1 (255 : Int32) (by decide); have := (by decide : ((255 : Int32)).toInt = 255); have := (by decide : ((256 : Int32)).toInt = 256); omega))
          have hs32 : z5 < (256 : Int32) := by rw [hz5]; exact hc31
          have hc40 : (((i1.toUInt32 >>> ((8 : Int32) &&& 31).toUInt32).toInt32) &&& (255 : Int32)) < (256 : Int32) := (Int32.lt_iff_toInt_lt.mpr (by have := c_and ((i1.toUInt32 >>> ((8 : Int32) &&& 31).toUInt32).toInt32) (255 : Int32) (by decide); have := (by decide : ((255 : Int32)).toInt = 255); have := (by decide : ((256 : Int32)).toInt = 256); omega))
          have hs41 : z6 < (256 : Int32) := by rw [hz6]; exact hc40
          have hc100 : (own_seq ((i0 &&& (3 : Int32)) % (3 : Int32)) (i1 &&& (255 : Int32)) (((i1.toUInt32 >>> ((8 : Int32) &&& 31).toUInt32).toInt32) &&& (255 : Int32)) zt1 zt3 zt4) = (0 : Int32) := hk4
          have hs101 : (own_seq z1 z5 z6 zt1 zt3 zt4) = (0 : Int32) := by rw [hz6, hz5, hz1]; exact hc100
          obtain ⟨_, Tr12, Lr12, Xr12, hQr12, str12⟩ := ocallV Xr11 hx hZ zm9 zm9 hown (ww hw 55 rfl) (ww hw 56 rfl) (notFace_of_selects (args := #[]) (mvT hZ (ww hw 58 rfl))) (ww hw 58 rfl) (ww hw 57 rfl) (by decide) (ww hw 59 rfl) (ww hw 28 rfl) er11 f42 (rm8_55 l hw br2 br6 u1 u2 b1 b3 z1 z5 z6 zt1 zt3 zt4 ci0 Tr10.heap n0 Z_8 f43 f44 f39 hs103 f45 f40 f46 ne2 f47 f48 hc71 hs30 hs32 hzt3.1 hzt3.2 hs39 hs41 hzt4.1 hzt4.2 hzt1.1 hzt1.2 hs7 hs9 hs101) (st := [(.ref br6), (.ref br2)]) rfl 0 rfl (by decide) (pc := 416) (Ls := (lc35 i0 i1 i2 i3 i4 i5 z1 zt1 z3 zt2 z5 z6 zt3 zt4 z7 z8 zt5 zt6 zt7 zt8 b1 br2 z9 br6 0)) hml rfl (lenOf pd_9 rfl) at_416 hby
          obtain ⟨rfl, Nr12q, er12⟩ := hQr12
          have N10 := Fr.app N9 Nr12q
          refine own_go (U' := Tr12.setTop (mkF m 421 (lc35 i0 i1 i2 i3 i4 i5 z1 zt1 z3 zt2 z5 z6 zt3 zt4 z7 z8 zt5 zt6 zt7 zt8 b1 br2 z9 br6 0) [(.int 0), (.int 0)])) (fun t k => oifY (pc := 384) Xr11 hx hby at_384 409 ((if0 _ _).trans (teq hs101).1) (by decide) (oiconst Xr11 hx hby at_409 (oistore Xr11 hx hby at_410 (lc35 i0 i1 i2 i3 i4 i5 z1 zt1 z3 zt2 z5 z6 zt3 zt4 z7 z8 zt5 zt6 zt7 zt8 b1 br2 z9 br6 0) rfl (oaload Xr11 hx hby at_412 rfl rfl (oaload Xr11 hx hby at_414 rfl rfl (str12 _ (oiload Xr12 hx hby at_419 rfl k))))))) ?_
          refine own_go (U' := Tr12.setTop (mkF m 429 (lc35 i0 i1 i2 i3 i4 i5 z1 zt1 z3 zt2 z5 z6 zt3 zt4 z7 z8 zt5 zt6 zt7 zt8 b1 br2 z9 br6 0) [(.int 1)])) (fun t k => oicN Xr12 hx hby at_421 (by decide) (oiconst Xr12 hx hby at_424 (ogoto (pc := 425) Xr12 hx hby at_425 429 (by decide) k))) ?_
          obtain ⟨fs, hr, hrun, hended, hW, hsame⟩ := Xr12.leave (v := some (.int 1)) (fun h => by rw [Bd.returns] at h; cases h)
          have hE := hSr10.ended hW (by show _ ≤ Tr12.heap.size; rw [er12]; exact (Nat.le_refl _)) hsame
          refine own_out ⟨_, _, ?_, hrun, hended, _, _, rfl, ?_, ?_, ⟨_, rfl⟩, hE.1, hE.2.1, hE.2.2.mono (by decide) (by decide)⟩
          · exact retN Xr12 hx (t := .boolean) Bd.returns (by simp) (hb hby at_429) hr
          · exact ⟨rfl, N10⟩
          · show CHr Z consts_1 s.vm s.heap Tr12.vm Tr12.heap; rw [hh, er12]; exact C8.trans (CHv.at (s := s) Xr12 hZ (own_EW hw) C8.1)
        · obtain ⟨_, Tr12, Lr12, Xr12, hQr12, str12⟩ := ocallS Xr11 hx hZ zm10 hown (ww hw 74 rfl) (ww hw 75 rfl) (by decide) (ww hw 76 rfl) (ww hw 2 rfl) er11 (mg12_29 l hw z3 z7 z8 zt2 zt5 zt6 Tr10.heap n0 Z_8 ) (st := [(.int zt6), (.int zt5), (.int zt2), (.int z8), (.int z7), (.int z3)]) rfl 0 rfl (by decide) (pc := 399) (Ls := (lc32 i0 i1 i2 i3 i4 i5 z1 zt1 z3 zt2 z5 z6 zt3 zt4 z7 z8 zt5 zt6 zt7 zt8 b1 br2 z9 br6)) hml rfl (lenOf pd_10 rfl) at_399 hby
          obtain ⟨rfl, Nr12q, er12⟩ := hQr12
          have N10 := Fr.app N9 Nr12q
          have hc104 : ¬ ((own_seq ((i0 &&& (3 : Int32)) % (3 : Int32)) (i1 &&& (255 : Int32)) (((i1.toUInt32 >>> ((8 : Int32) &&& 31).toUInt32).toInt32) &&& (255 : Int32)) zt1 zt3 zt4) = (0 : Int32)) := hk4
          have hs105 : ¬ ((own_seq z1 z5 z6 zt1 zt3 zt4) = (0 : Int32)) := by rw [hz6, hz5, hz1]; exact hc104
          refine own_go (U' := Tr12.setTop (mkF m 402 (lc32 i0 i1 i2 i3 i4 i5 z1 zt1 z3 zt2 z5 z6 zt3 zt4 z7 z8 zt5 zt6 zt7 zt8 b1 br2 z9 br6) [(.int (own_seq z3 z7 z8 zt2 zt5 zt6))])) (fun t k => oifN Xr11 hx hby at_384 ((if0 _ _).trans (feq hs105).1) (oiload Xr11 hx hby at_387 rfl (oiload Xr11 hx hby at_389 rfl (oiload Xr11 hx hby at_391 rfl (oiload Xr11 hx hby at_393 rfl (oiload Xr11 hx hby at_395 rfl (oiload Xr11 hx hby at_397 rfl (str12 _ k)))))))) ?_
          have f42 : Exa Z Tr10.heap br2 zs17 := ((((Exa.ext Er6 (f16.keep Kr5)).keep Kr8).keep Kr9).keep Kr10)
          have f43 : Exa Z Tr10.heap br6 zs17 := (f37.keep Kr10)
          have ne1 : br2 ≠ br6 := Nat.ne_of_lt (nlt (f18.lt) (Nat.le_of_eq gr6.symm))
          have f44 : Fld Z Tr10.heap br2 zs17 "kind" zs11 (.ref u1) := ((((Fld.ext Er6 f18).keep Kr8 nin0).keep Kr9 nin0).keep Kr10 (ninS ne1 nin0))
          have f45 : Fld Z Tr10.heap br2 zs17 "id" zs18 (.ref b1) := ((((Fld.ext Er6 f19).keep Kr8 nin0).keep Kr9 nin0).keep Kr10 (ninS ne1 nin0))
          have f46 : own_Str Z Tr10.heap b1 z1 z5 z6 := (own_Str.keep (own_Str.keep (own_Str.keep (own_Str.ext (own_Str.keep f17 Kr5 (allS ⟨_, _, a0, (Ar2.keep Kr4), by decide, (ww hw 27 rfl)⟩ all0)) Er6) Kr8 all0) Kr9 all0) Kr10 (allS ⟨_, _, a0, ((Ar6.keep Kr8).keep Kr9), by decide, (ww hw 27 rfl)⟩ all0))
          have ne2 : b1 ≠ b3 := Nat.ne_of_lt (nlt (nlt (nlt (nlt (nlt ((own_Str.E f1).lt) Er2.1) Kr4.1) Kr5.1) Er6.1) sz3)
          have f47 : own_Str Z Tr10.heap b3 zt1 zt3 zt4 := (own_Str.keep f38 Kr10 (allS ⟨_, _, a0, ((Ar6.keep Kr8).keep Kr9), by decide, (ww hw 27 rfl)⟩ all0))
          have f48 : Sta Z Tr10.heap zs0 zs7 "Z" (.int ci0) := (own_staK (own_staK f31 Kr9 all0) Kr10 (allS (own_nsE ((Ar6.keep Kr8).keep Kr9)) all0))
          have f49 : Fld Z Tr10.heap br2 zs17 "version" zs18 (.ref b2) := ((((Fld.ext Er6 f20).keep Kr8 nin0).keep Kr9 nin0).keep Kr10 (ninS ne1 nin0))
          have f50 : own_Str Z Tr10.heap b2 z3 z7 z8 := (own_Str.keep (own_Str.keep (own_Str.keep (own_Str.ext (own_Str.keep f11 Kr5 (allS ⟨_, _, a0, (Ar2.keep Kr4), by decide, (ww hw 27 rfl)⟩ all0)) Er6) Kr8 all0) Kr9 all0) Kr10 (allS ⟨_, _, a0, ((Ar6.keep Kr8).keep Kr9), by decide, (ww hw 27 rfl)⟩ all0))
          have ne3 : b2 ≠ b4 := Nat.ne_of_lt (nlt (nlt (nlt (nlt ((own_Str.E f11).lt) Kr5.1) Er6.1) Kr8.1) sz4)
          have f51 : own_Str Z Tr10.heap b4 zt2 zt5 zt6 := (own_Str.keep f32 Kr10 (allS ⟨_, _, a0, ((Ar6.keep Kr8).keep Kr9), by decide, (ww hw 27 rfl)⟩ all0))
          have ha102 : (own_kd zt7 w0 w1) = (own_kd zt8 w0 w1) := (congrArg (fun z => own_kd z w0 w1) hk3)
          have hs103 : u1 = u2 := by rw [hu2, hu1]; exact ha102
          have hc31 : (i1 &&& (255 : Int32)) < (256 : Int32) := (Int32.lt_iff_toInt_lt.mpr (by have := c_and i1 (255 : Int32) (by decide); have := (by decide : ((255 : Int32)).toInt = 255); have := (by decide : ((256 : Int32)).toInt = 256); omega))
          have hs32 : z5 < (256 : Int32) := by rw [hz5]; exact hc31
          have hc40 : (((i1.toUInt32 >>> ((8 : Int32) &&& 31).toUInt32).toInt32) &&& (255 : Int32)) < (256 : Int32) := (Int32.lt_iff_toInt_lt.mpr (by have := c_and ((i1.toUInt32 >>> ((8 : Int32) &&& 31).toUInt32).toInt32) (255 : Int32) (by decide); have := (by decide : ((255 : Int32)).toInt = 255); have := (by decide : ((256 : Int32)).toInt = 256); omega))
          have hs41 : z6 < (256 : Int32) := by rw [hz6]; exact hc40
          have hc53 : (i3 &&& (255 : Int32)) < (256 : Int32) := (Int32.lt_iff_toInt_lt.mpr (by have := c_and i3 (255 : Int32) (by decide); have := (by decide : ((255 : Int32)).toInt = 255); have := (by decide : ((256 : Int32)).toInt = 256); omega))
          have hs54 : z7 < (256 : Int32) := by rw [hz7]; exact hc53
          have hc62 : (((i3.toUInt32 >>> ((8 : Int32) &&& 31).toUInt32).toInt32) &&& (255 : Int32)) < (256 : Int32) := (Int32.lt_iff_toInt_lt.mpr (by have := c_and ((i3.toUInt32 >>> ((8 : Int32) &&& 31).toUInt32).toInt32) (255 : Int32) (by decide); have := (by decide : ((255 : Int32)).toInt = 255); have := (by decide : ((256 : Int32)).toInt = 256); omega))
          have hs63 : z8 < (256 : Int32) := by rw [hz8]; exact hc62
          by_cases hk5 : (own_seq ((((i0.toUInt32 >>> ((4 : Int32) &&& 31).toUInt32).toInt32) &&& (3 : Int32)) % (3 : Int32)) (i3 &&& (255 : Int32)) (((i3.toUInt32 >>> ((8 : Int32) &&& 31).toUInt32).toInt32) &&& (255 : Int32)) zt2 zt5 zt6) = (0 : Int32)
          · have hc106 : (own_seq ((((i0.toUInt32 >>> ((4 : Int32) &&& 31).toUInt32).toInt32) &&& (3 : Int32)) % (3 : Int32)) (i3 &&& (255 : Int32)) (((i3.toUInt32 >>> ((8 : Int32) &&& 31).toUInt32).toInt32) &&& (255 : Int32)) zt2 zt5 zt6) = (0 : Int32) := hk5
            have hs107 : (own_seq z3 z7 z8 zt2 zt5 zt6) = (0 : Int32) := by rw [hz8, hz7, hz3]; exact hc106
            obtain ⟨_, Tr13, Lr13, Xr13, hQr13, str13⟩ := ocallV Xr12 hx hZ zm9 zm9 hown (ww hw 55 rfl) (ww hw 56 rfl) (notFace_of_selects (args := #[]) (mvT hZ (ww hw 58 rfl))) (ww hw 58 rfl) (ww hw 57 rfl) (by decide) (ww hw 59 rfl) (ww hw 28 rfl) er12 f42 (rm8_56 l hw br2 br6 u1 u2 b1 b3 z1 z5 z6 zt1 zt3 zt4 ci0 b2 b4 z3 z7 z8 zt2 zt5 zt6 Tr10.heap n0 Z_8 f43 f44 f39 hs103 f45 f40 f46 ne2 f47 f48 hc71 hs30 hs32 hzt3.1 hzt3.2 hs39 hs41 hzt4.1 hzt4.2 hzt1.1 hzt1.2 hs7 hs9 hs105 f49 f41 f50 ne3 f51 hs52 hs54 hzt5.1 hzt5.2 hs61 hs63 hzt6.1 hzt6.2 hzt2.1 hzt2.2 hs17 hs19 hs107) (st := [(.ref br6), (.ref br2)]) rfl 0 rfl (by decide) (pc := 416) (Ls := (lc35 i0 i1 i2 i3 i4 i5 z1 zt1 z3 zt2 z5 z6 zt3 zt4 z7 z8 zt5 zt6 zt7 zt8 b1 br2 z9 br6 0)) hml rfl (lenOf pd_9 rfl) at_416 hby
            obtain ⟨rfl, Nr13q, er13⟩ := hQr13
            have N11 := Fr.app N10 Nr13q
            refine own_go (U' := Tr13.setTop (mkF m 421 (lc35 i0 i1 i2 i3 i4 i5 z1 zt1 z3 zt2 z5 z6 zt3 zt4 z7 z8 zt5 zt6 zt7 zt8 b1 br2 z9 br6 0) [(.int 0), (.int 0)])) (fun t k => oifY (pc := 402) Xr12 hx hby at_402 409 ((if0 _ _).trans (teq hs107).1) (by decide) (oiconst Xr12 hx hby at_409 (oistore Xr12 hx hby at_410 (lc35 i0 i1 i2 i3 i4 i5 z1 zt1 z3 zt2 z5 z6 zt3 zt4 z7 z8 zt5 zt6 zt7 zt8 b1 br2 z9 br6 0) rfl (oaload Xr12 hx hby at_412 rfl rfl (oaload Xr12 hx hby at_414 rfl rfl (str13 _ (oiload Xr13 hx hby at_419 rfl k))))))) ?_
            refine own_go (U' := Tr13.setTop (mkF m 429 (lc35 i0 i1 i2 i3 i4 i5 z1 zt1 z3 zt2 z5 z6 zt3 zt4 z7 z8 zt5 zt6 zt7 zt8 b1 br2 z9 br6 0) [(.int 1)])) (fun t k => oicN Xr13 hx hby at_421 (by decide) (oiconst Xr13 hx hby at_424 (ogoto (pc := 425) Xr13 hx hby at_425 429 (by decide) k))) ?_
            obtain ⟨fs, hr, hrun, hended, hW, hsame⟩ := Xr13.leave (v := some (.int 1)) (fun h => by rw [Bd.returns] at h; cases h)
            have hE := hSr10.ended hW (by show _ ≤ Tr13.heap.size; rw [er13]; exact (Nat.le_refl _)) hsame
            refine own_out ⟨_, _, ?_, hrun, hended, _, _, rfl, ?_, ?_, ⟨_, rfl⟩, hE.1, hE.2.1, hE.2.2.mono (by decide) (by decide)⟩
            · exact retN Xr13 hx (t := .boolean) Bd.returns (by simp) (hb hby at_429) hr
            · exact ⟨rfl, N11⟩
            · show CHr Z consts_1 s.vm s.heap Tr13.vm Tr13.heap; rw [hh, er13]; exact C8.trans (CHv.at (s := s) Xr13 hZ (own_EW hw) C8.1)
          · have hc108 : ¬ ((own_seq ((((i0.toUInt32 >>> ((4 : Int32) &&& 31).toUInt32).toInt32) &&& (3 : Int32)) % (3 : Int32)) (i3 &&& (255 : Int32)) (((i3.toUInt32 >>> ((8 : Int32) &&& 31).toUInt32).toInt32) &&& (255 : Int32)) zt2 zt5 zt6) = (0 : Int32)) := hk5
            have hs109 : ¬ ((own_seq z3 z7 z8 zt2 zt5 zt6) = (0 : Int32)) := by rw [hz8, hz7, hz3]; exact hc108
            obtain ⟨_, Tr13, Lr13, Xr13, hQr13, str13⟩ := ocallV Xr12 hx hZ zm9 zm9 hown (ww hw 55 rfl) (ww hw 56 rfl) (notFace_of_selects (args := #[]) (mvT hZ (ww hw 58 rfl))) (ww hw 58 rfl) (ww hw 57 rfl) (by decide) (ww hw 59 rfl) (ww hw 28 rfl) er12 f42 (rm8_57 l hw br2 br6 u1 u2 b1 b3 z1 z5 z6 zt1 zt3 zt4 ci0 b2 b4 z3 z7 z8 zt2 zt5 zt6 Tr10.heap n0 Z_8 f43 f44 f39 hs103 f45 f40 f46 ne2 f47 f48 hc71 hs30 hs32 hzt3.1 hzt3.2 hs39 hs41 hzt4.1 hzt4.2 hzt1.1 hzt1.2 hs7 hs9 hs105 f49 f41 f50 ne3 f51 hs52 hs54 hzt5.1 hzt5.2 hs61 hs63 hzt6.1 hzt6.2 hzt2.1 hzt2.2 hs17 hs19 hs109) (st := [(.ref br6), (.ref br2)]) rfl 0 rfl (by decide) (pc := 416) (Ls := (lc35 i0 i1 i2 i3 i4 i5 z1 zt1 z3 zt2 z5 z6 zt3 zt4 z7 z8 zt5 zt6 zt7 zt8 b1 br2 z9 br6 1)) hml rfl (lenOf pd_9 rfl) at_416 hby
            obtain ⟨rfl, Nr13q, er13⟩ := hQr13
            have N11 := Fr.app N10 Nr13q
            refine own_go (U' := Tr13.setTop (mkF m 421 (lc35 i0 i1 i2 i3 i4 i5 z1 zt1 z3 zt2 z5 z6 zt3 zt4 z7 z8 zt5 zt6 zt7 zt8 b1 br2 z9 br6 1) [(.int 1), (.int 1)])) (fun t k => oifN Xr12 hx hby at_402 ((if0 _ _).trans (feq hs109).1) (oiconst Xr12 hx hby at_405 (ogoto (pc := 406) Xr12 hx hby at_406 410 (by decide) (oistore Xr12 hx hby at_410 (lc35 i0 i1 i2 i3 i4 i5 z1 zt1 z3 zt2 z5 z6 zt3 zt4 z7 z8 zt5 zt6 zt7 zt8 b1 br2 z9 br6 1) rfl (oaload Xr12 hx hby at_412 rfl rfl (oaload Xr12 hx hby at_414 rfl rfl (str13 _ (oiload Xr13 hx hby at_419 rfl k)))))))) ?_
            refine own_go (U' := Tr13.setTop (mkF m 429 (lc35 i0 i1 i2 i3 i4 i5 z1 zt1 z3 zt2 z5 z6 zt3 zt4 z7 z8 zt5 zt6 zt7 zt8 b1 br2 z9 br6 1) [(.int 1)])) (fun t k => oicN Xr13 hx hby at_421 (by decide) (oiconst Xr13 hx hby at_424 (ogoto (pc := 425) Xr13 hx hby at_425 429 (by decide) k))) ?_
            obtain ⟨fs, hr, hrun, hended, hW, hsame⟩ := Xr13.leave (v := some (.int 1)) (fun h => by rw [Bd.returns] at h; cases h)
            have hE := hSr10.ended hW (by show _ ≤ Tr13.heap.size; rw [er13]; exact (Nat.le_refl _)) hsame
            refine own_out ⟨_, _, ?_, hrun, hended, _, _, rfl, ?_, ?_, ⟨_, rfl⟩, hE.1, hE.2.1, hE.2.2.mono (by decide) (by decide)⟩
            · exact retN Xr13 hx (t := .boolean) Bd.returns (by simp) (hb hby at_429) hr
            · exact ⟨rfl, N11⟩
            · show CHr Z consts_1 s.vm s.heap Tr13.vm Tr13.heap; rw [hh, er13]; exact C8.trans (CHv.at (s := s) Xr13 hZ (own_EW hw) C8.1)
      · have f42 : Exa Z Tr10.heap br2 zs17 := ((((Exa.ext Er6 (f16.keep Kr5)).keep Kr8).keep Kr9).keep Kr10)
        have f43 : Exa Z Tr10.heap br6 zs17 := (f37.keep Kr10)
        have ne1 : br2 ≠ br6 := Nat.ne_of_lt (nlt (f18.lt) (Nat.le_of_eq gr6.symm))
        have f44 : Fld Z Tr10.heap br2 zs17 "kind" zs11 (.ref u1) := ((((Fld.ext Er6 f18).keep Kr8 nin0).keep Kr9 nin0).keep Kr10 (ninS ne1 nin0))
        have Z_8 : n0 ≤ Tr10.heap.size := Nat.le_trans Z_7 Kr10.1
        have ha111 : (own_kd zt7 w0 w1) ≠ (own_kd zt8 w0 w1) := (own_kd_ne hzt7 hzt8 hk3 (Fld.ne S5 S4 (by decide)))
        have hs112 : u1 ≠ u2 := by rw [hu2, hu1]; exact ha111
        obtain ⟨_, Tr11, Lr11, Xr11, hQr11, str11⟩ := ocallV Xr10 hx hZ zm9 zm9 hown (ww hw 55 rfl) (ww hw 56 rfl) (notFace_of_selects (args := #[]) (mvT hZ (ww hw 58 rfl))) (ww hw 58 rfl) (ww hw 57 rfl) (by decide) (ww hw 59 rfl) (ww hw 28 rfl) rfl f42 (rm8_58 l hw br2 br6 u1 u2 Tr10.heap n0 Z_8 f43 f44 f39 hs112) (st := [(.ref br6), (.ref br2)]) rfl 0 rfl (by decide) (pc := 416) (Ls := (lc35 i0 i1 i2 i3 i4 i5 z1 zt1 z3 zt2 z5 z6 zt3 zt4 z7 z8 zt5 zt6 zt7 zt8 b1 br2 z9 br6 0)) hml rfl (lenOf pd_9 rfl) at_416 hby
        obtain ⟨rfl, Nr11q, er11⟩ := hQr11
        have N9 := Fr.app N8 Nr11q
        have hc110 : ¬ (zt7 = zt8) := hk3
        refine own_go (U' := Tr11.setTop (mkF m 421 (lc35 i0 i1 i2 i3 i4 i5 z1 zt1 z3 zt2 z5 z6 zt3 zt4 z7 z8 zt5 zt6 zt7 zt8 b1 br2 z9 br6 0) [(.int 0), (.int 0)])) (fun t k => oicY (pc := 366) Xr10 hx hby at_366 409 (feq hc110).2 (by decide) (oiconst Xr10 hx hby at_409 (oistore Xr10 hx hby at_410 (lc35 i0 i1 i2 i3 i4 i5 z1 zt1 z3 zt2 z5 z6 zt3 zt4 z7 z8 zt5 zt6 zt7 zt8 b1 br2 z9 br6 0) rfl (oaload Xr10 hx hby at_412 rfl rfl (oaload Xr10 hx hby at_414 rfl rfl (str11 _ (oiload Xr11 hx hby at_419 rfl k))))))) ?_
        refine own_go (U' := Tr11.setTop (mkF m 429 (lc35 i0 i1 i2 i3 i4 i5 z1 zt1 z3 zt2 z5 z6 zt3 zt4 z7 z8 zt5 zt6 zt7 zt8 b1 br2 z9 br6 0) [(.int 1)])) (fun t k => oicN Xr11 hx hby at_421 (by decide) (oiconst Xr11 hx hby at_424 (ogoto (pc := 425) Xr11 hx hby at_425 429 (by decide) k))) ?_
        obtain ⟨fs, hr, hrun, hended, hW, hsame⟩ := Xr11.leave (v := some (.int 1)) (fun h => by rw [Bd.returns] at h; cases h)
        have hE := hSr10.ended hW (by show _ ≤ Tr11.heap.size; rw [er11]; exact (Nat.le_refl _)) hsame
        refine own_out ⟨_, _, ?_, hrun, hended, _, _, rfl, ?_, ?_, ⟨_, rfl⟩, hE.1, hE.2.1, hE.2.2.mono (by decide) (by decide)⟩
        · exact retN Xr11 hx (t := .boolean) Bd.returns (by simp) (hb hby at_429) hr
        · exact ⟨rfl, N9⟩
        · show CHr Z consts_1 s.vm s.heap Tr11.vm Tr11.heap; rw [hh, er11]; exact C8.trans (CHv.at (s := s) Xr11 hZ (own_EW hw) C8.1)
set_option maxRecDepth 65536 in
set_option maxHeartbeats 40000000 in
theorem comes_1 {Post : Tables → Env → Array Value → State → Outcome → State → Prop} (hpost : ∀ tb e args s v u, (limb_1_1.after args s (.returned v) u = true ∧ limb_1_2.after args s (.returned v) u = true ∧ True) → ReturnedEndW s (.returned v) u (Jvm.fieldLocs frame_1_writes args s ++ Jvm.arrayLocs frame_1_arrays args s ++ Jvm.staticLocs frame_1_statics s) 48 4288 → Post tb e args s (.returned v) u) :
    ArmFor flags0 classFile x code maxLocals ret World_1 tables_1 room_1 Calls_1 rest_1 Pre_1 Post := by
  intro l hfl _ _ p e ha hc hk s m args below hf hA hF happ hP
  obtain ⟨hcalls, hrest, hpre⟩ := hP
  obtain ⟨-, -, -, hnamed, -, -, -, hat⟩ := (Spec.applies_iff hf).mp happ
  obtain ⟨hg, hn⟩ := and_e (Cond.before_iff.mp (show (Jvm.Cond.and given_1 narrow_1).before args s = true from hpre))
  obtain ⟨g6, g7⟩ := and_e hg
  obtain ⟨g8, g9⟩ := and_e g7
  obtain ⟨g10, g11⟩ := and_e g9
  obtain ⟨g12, g13⟩ := and_e g11
  obtain ⟨g14, g15⟩ := and_e g13
  obtain ⟨g16, g17⟩ := and_e g15
  obtain ⟨v0, v1, v2, v3, v4, v5, rfl⟩ : ∃ v0 v1 v2 v3 v4 v5 : Value, args = #[v0, v1, v2, v3, v4, v5] := by
    have hs : args.size = 6 := by simpa [Cond.value, given_1] using g6
    obtain ⟨L⟩ := args
    match L, hs with
    | [v0, v1, v2, v3, v4, v5], _ => exact ⟨v0, v1, v2, v3, v4, v5, rfl⟩
  have hw := fun d (hd : d ∈ tables_1) => atoms_spec (ws := Jvm.Cond.code x code maxLocals ret :: tables_1) hat d (List.mem_cons_of_mem _ hd)
  obtain ⟨i0, ei0⟩ := is_v g8
  obtain rfl : v0 = (.int i0) := Option.some.inj ei0
  obtain ⟨i1, ei1⟩ := is_v g10
  obtain rfl : v1 = (.int i1) := Option.some.inj ei1
  obtain ⟨i2, ei2⟩ := is_v g12
  obtain rfl : v2 = (.int i2) := Option.some.inj ei2
  obtain ⟨i3, ei3⟩ := is_v g14
  obtain rfl : v3 = (.int i3) := Option.some.inj ei3
  obtain ⟨i4, ei4⟩ := is_v g16
  obtain rfl : v4 = (.int i4) := Option.some.inj ei4
  obtain ⟨i5, ei5⟩ := is_v g17
  obtain rfl : v5 = (.int i5) := Option.some.inj ei5
  have hfit : Fit s := fun {y c} hc i hi => by
    obtain ⟨ha, rfl⟩ := Array.getElem?_eq_some_iff.mp hc
    have q := List.all_eq_true.mp ((Array.all_eq_true_iff_forall_mem.mp hF) _ (Array.getElem_mem ha)) i (List.mem_range.mpr hi)
    simpa [Array.getElem?_eq_getElem hi] using q
  obtain ⟨hsets, hown0⟩ := atoms_of _ (rest_1_c_eq ▸ (show rest_1_c.before _ s = true from hrest))
  obtain ⟨g18, g19⟩ := and_e hn
  have c0 := g18
  obtain ⟨g20, g21⟩ := and_e g19
  have c1 := g20
  obtain ⟨g22, g23⟩ := and_e g21
  have c2 := g22
  have c3 := g23
  obtain ⟨w0, ew0⟩ := exa_v c0
  have S0 := Sta.start ew0 (Or.inr ⟨(ww hw 33 rfl), (ww hw 34 rfl)⟩)
  have S1 := Exa.start ew0 c0
  obtain ⟨w1, ew1⟩ := exa_v c1
  have S2 := Sta.start ew1 (Or.inr ⟨(ww hw 33 rfl), (ww hw 89 rfl)⟩)
  have S3 := Exa.start ew1 c1
  have S4 := own_fldI ew1 c2
  have S5 := own_fldI ew0 c3
  obtain ⟨vy0, evy0, hvy0⟩ := own_isR (Cond.before_iff.mp (hsets _ (List.mem_of_getElem? (i := 8) rfl)))
  have S6 := Sta.start evy0 (Or.inl (hsets _ (List.mem_of_getElem? (i := 7) rfl)))
  obtain ⟨ci0, eci0⟩ := is_v (Cond.before_iff.mp (hsets _ (List.mem_of_getElem? (i := 1) rfl)))
  have S8 := Sta.start eci0 (Or.inl (hsets _ (List.mem_of_getElem? (i := 0) rfl)))
  have hci0 := own_neI eci0 (Cond.before_iff.mp (hsets _ (List.mem_of_getElem? (i := 2) rfl)))
  obtain ⟨n, o, h1, h2, h3, _, L, rfl, ⟨rfl, N⟩, -, hq⟩ := law_all l s _ hw tables_1 i0 i1 i2 i3 i4 i5 w0 w1 ci0 vy0 s.heap s.heap.size (Nat.le_refl _) S0 S1 S2 S3 S4 S5 S6 hvy0 S8 hci0 p e ha hc hk s m _ below hf ((Spec.applies_iff_loose hf).mp happ).1 ⟨rfl, State.Warmed39.refl s, rfl, CHv.start (own_EW hw) (fun p hp => hcalls.1 p hp) (hsets _ (List.mem_of_getElem? (i := 2) rfl)) (ww hw 19 rfl) (ww hw 5 rfl), all0⟩ trivial
  refine ⟨n, _, h1, h2, h3, hpost _ _ _ _ _ _ ⟨Cond.after_iff.mpr rfl, Cond.after_iff.mpr (eq_i res_at (Term.int_eval (1)) rfl), trivial⟩ ⟨hq.1, hq.2.1, hq.2.2.1, (hq.2.2.2.sift fun y hy => Or.inr (N y hy)).mono (by decide) (by decide)⟩⟩
theorem main_1_1 : Claimed_1_1 := comes_1 fun _ _ _ _ _ _ h hF => ⟨h.1, hF⟩
theorem main_1_2 : Claimed_1_2 := comes_1 fun _ _ _ _ _ _ h hF => ⟨h.2.1, hF⟩
end Jvm.Pilot.@@N@@
namespace Jvm.Pilot.@@N@@
open Jvm Jvm.ClassFile Sem Op Lib Jvm.Free Jvm.Stand Jvm.Pilot.@@N@@.Jvm.D
/-! MADE BY PROGRAM (witnessworld.py) out of the Statement's table words and the real class files: 21 classes; the members and pool entries that the words name. The judged class is class 1, her method 4. -/
namespace start1
open Jvm.ClassFile
def u (s : String) : CpInfo := .utf8 (stringToUtf16 s)
/-- a pool by its gaps: so many unusable entries, then the entry; so many at the end -/
def gap : Nat → List CpInfo → List CpInfo
  | 0, r => r
  | n + 1, r => .unusable :: gap n r
def poolList (es : List (Nat × CpInfo)) (last : Nat) : List CpInfo := es.foldr (fun e r => gap e.1 (e.2 :: r)) (gap last [])
def pool (es : List (Nat × CpInfo)) (last : Nat) : Array CpInfo := ⟨poolList es last⟩
def fileOf (pool : Array CpInfo) (this : Nat) (attrs : Array Attribute := #[]) (ms : Array MethodInfo := #[]) (fl : Nat := 33) (sup : Nat := 0) (ifs : Array Nat := #[]) (fds : Array FieldInfo := #[]) : ClassFile where
  minorVersion := 0
  majorVersion := 65
  constantPool := pool
  accessFlags := fl
  thisClass := this
  superClass := sup
  interfaces := ifs
  fields := fds
  methods := ms
  attributes := attrs
def plain (name : String) (sup : Option ClassId) : Class where
  name := name
  kind := .ordinary
  loader := none
  accessFlags := 33
  super := sup
  interfaces := #[]
  cf := none
  fields := #[]
  methods := #[]
  instanceTypes := #[]
  staticTypes := #[]
  resolved := #[]
  callSites := []
  init := .initialized
  statics := none
  mirror := none

def pool0 : Array CpInfo := pool [(5, u "<init>"), (0, u "()V"), (1, .class_ 10), (1, u "java/lang/Object")] 113

def k0c0 : Code := { maxStack := 0, maxLocals := 1, code := object_method_1_code, exceptionTable := #[], attributes := #[] }
def k0m0 : Method := { name := "<init>", desc := "()V", sig := { parameters := [], returnType := none }, accessFlags := 1, code := some k0c0 }
/-- java/lang/Object -/
def k0 : Class := { plain "java/lang/Object" none with
  accessFlags := 33
  interfaces := #[]
  cf := some (fileOf pool0 8 #[] #[{ accessFlags := 1, nameIndex := 5, descriptorIndex := 6, attributes := #[] }] 33 0 #[] #[])
  fields := #[]
  methods := #[k0m0]
  instanceTypes := #[]
  staticTypes := #[]
  resolved := Array.replicate 124 none
  statics := none }

def pool1 : Array CpInfo := pool [(2, .class_ 4), (1, u "java/lang/Object"), (0, u "<init>"), (0, u "()V"), (0, .class_ 8), (0, u "java/lang/String"), (0, .methodref 7 10), (0, .nameAndType 5 11), (0, u "([C)V"), (0, .fieldref 13 14), (0, .class_ 15), (0, .nameAndType 16 17), (0, u "com/example/aspen/aspen/model/PolicyIdentifier$Kind"), (0, u "POLICY_SET"), (0, u "Lcom/example/aspen/aspen/model/PolicyIdentifier$Kind;"), (0, .fieldref 13 19), (0, .nameAndType 20 17), (0, u "POLICY"), (0, .methodref 22 23), (0, .class_ 24), (0, .nameAndType 25 26), (0, u "com/example/aspen/aspen/model/PolicyIdentifierEqualsPinLaw"), (0, u "mk"), (0, u "(ICC)Ljava/lang/String;"), (0, .class_ 28), (0, u "com/example/aspen/aspen/model/PolicyIdentifier"), (0, .methodref 22 30), (0, .nameAndType 31 32), (0, u "kind"), (0, u "(Z)Lcom/example/aspen/aspen/model/PolicyIdentifier$Kind;"), (0, .methodref 27 34), (0, .nameAndType 5 35), (0, u "(Lcom/example/aspen/aspen/model/PolicyIdentifier$Kind;Ljava/lang/String;Ljava/lang/String;)V"), (0, .methodref 27 37), (0, .nameAndType 38 39), (0, u "equals"), (0, u "(Ljava/lang/Object;)Z"), (0, .methodref 22 41), (0, .nameAndType 42 43), (0, u "same"), (0, u "(ICCICC)Z"), (3, u "law"), (0, u "(IIIIII)Z")] 4

def k1m0 : Method := { name := "<init>", desc := "()V", sig := { parameters := [], returnType := none }, accessFlags := 1, code := none }
def k1c1 : Code := { maxStack := 6, maxLocals := 3, code := method_2_code, exceptionTable := #[], attributes := #[] }
def k1m1 : Method := { name := "mk", desc := "(ICC)Ljava/lang/String;", sig := { parameters := [.int, .char, .char], returnType := some (.object "java/lang/String") }, accessFlags := 10, code := some k1c1 }
def k1c2 : Code := { maxStack := 2, maxLocals := 6, code := method_3_code, exceptionTable := #[], attributes := #[] }
def k1m2 : Method := { name := "same", desc := "(ICCICC)Z", sig := { parameters := [.int, .char, .char, .int, .char, .char], returnType := some .boolean }, accessFlags := 10, code := some k1c2 }
def k1c3 : Code := { maxStack := 1, maxLocals := 1, code := method_4_code, exceptionTable := #[], attributes := #[] }
def k1m3 : Method := { name := "kind", desc := "(Z)Lcom/example/aspen/aspen/model/PolicyIdentifier$Kind;", sig := { parameters := [.boolean], returnType := some (.object "com/example/aspen/aspen/model/PolicyIdentifier$Kind") }, accessFlags := 10, code := some k1c3 }
def k1c4 : Code := { maxStack := 7, maxLocals := 25, code := code, exceptionTable := #[], attributes := #[] }
def k1m4 : Method := { name := "law", desc := "(IIIIII)Z", sig := { parameters := [.int, .int, .int, .int, .int, .int], returnType := some .boolean }, accessFlags := 9, code := some k1c4 }
/-- com/example/aspen/aspen/model/PolicyIdentifierEqualsPinLaw -/
def k1 : Class := { plain "com/example/aspen/aspen/model/PolicyIdentifierEqualsPinLaw" (some 0) with
  accessFlags := 49
  interfaces := #[]
  cf := some (fileOf pool1 22 #[] #[{ accessFlags := 1, nameIndex := 5, descriptorIndex := 6, attributes := #[] }, { accessFlags := 10, nameIndex := 25, descriptorIndex := 26, attributes := #[] }, { accessFlags := 10, nameIndex := 42, descriptorIndex := 43, attributes := #[] }, { accessFlags := 10, nameIndex := 31, descriptorIndex := 32, attributes := #[] }, { accessFlags := 9, nameIndex := 47, descriptorIndex := 48, attributes := #[] }] 49 2 #[] #[])
  fields := #[]
  methods := #[k1m0, k1m1, k1m2, k1m3, k1m4]
  instanceTypes := #[]
  staticTypes := #[]
  resolved := Array.replicate 53 none
  statics := none }

def pool2 : Array CpInfo := pool [(1, .class_ 2), (0, u "java/io/Serializable"), (0, .class_ 4), (0, u "java/lang/Object")] 2

/-- java/io/Serializable -/
def k2 : Class := { plain "java/io/Serializable" (some 0) with
  accessFlags := 1537
  interfaces := #[]
  cf := some (fileOf pool2 1 #[] #[] 1537 3 #[] #[])
  fields := #[]
  methods := #[]
  instanceTypes := #[]
  staticTypes := #[]
  resolved := Array.replicate 7 none
  statics := none }

def pool3 : Array CpInfo := pool [(1, .class_ 2), (0, u "java/lang/Comparable"), (0, .class_ 4), (0, u "java/lang/Object")] 7

/-- java/lang/Comparable -/
def k3 : Class := { plain "java/lang/Comparable" (some 0) with
  accessFlags := 1537
  interfaces := #[]
  cf := some (fileOf pool3 1 #[] #[] 1537 3 #[] #[])
  fields := #[]
  methods := #[]
  instanceTypes := #[]
  staticTypes := #[]
  resolved := Array.replicate 12 none
  statics := none }

def pool4 : Array CpInfo := pool [(2, .class_ 4), (1, u "java/lang/CharSequence"), (42, .class_ 48), (0, u "java/lang/CharSequence$1CodePointIterator"), (10, .class_ 60), (0, u "java/lang/CharSequence$1CharIterator"), (5, .class_ 67), (0, u "java/lang/Object")] 63

/-- java/lang/CharSequence -/
def k4 : Class := { plain "java/lang/CharSequence" (some 0) with
  accessFlags := 1537
  interfaces := #[]
  cf := some (fileOf pool4 2 #[.nestMembers #[47, 59]] #[] 1537 66 #[] #[])
  fields := #[]
  methods := #[]
  instanceTypes := #[]
  staticTypes := #[]
  resolved := Array.replicate 131 none
  statics := none }

def pool5 : Array CpInfo := pool [(1, .class_ 2), (0, u "java/lang/constant/Constable"), (0, .class_ 4), (0, u "java/lang/Object")] 6

/-- java/lang/constant/Constable -/
def k5 : Class := { plain "java/lang/constant/Constable" (some 0) with
  accessFlags := 1537
  interfaces := #[]
  cf := some (fileOf pool5 1 #[] #[] 1537 3 #[] #[])
  fields := #[]
  methods := #[]
  instanceTypes := #[]
  staticTypes := #[]
  resolved := Array.replicate 11 none
  statics := none }

def pool6 : Array CpInfo := pool [(1, .class_ 2), (0, u "java/lang/constant/ConstantDesc"), (0, .class_ 4), (0, u "java/lang/Object")] 32

/-- java/lang/constant/ConstantDesc -/
def k6 : Class := { plain "java/lang/constant/ConstantDesc" (some 0) with
  accessFlags := 1537
  interfaces := #[]
  cf := some (fileOf pool6 1 #[] #[] 1537 3 #[] #[])
  fields := #[]
  methods := #[]
  instanceTypes := #[]
  staticTypes := #[]
  resolved := Array.replicate 37 none
  statics := none }

def pool7 : Array CpInfo := pool [(1, .methodref 2 3), (0, .class_ 4), (0, .nameAndType 5 6), (0, u "java/lang/Object"), (0, u "<init>"), (0, u "()V"), (0, .string 8), (0, u ""), (0, .fieldref 10 11), (0, .class_ 12), (0, .nameAndType 13 14), (0, u "java/lang/String"), (0, u "value"), (0, u "[B"), (0, .fieldref 10 16), (0, .nameAndType 17 18), (0, u "coder"), (0, u "B"), (2, u "hash"), (0, u "I"), (2, u "hashIsZero"), (0, u "Z"), (0, .methodref 10 28), (0, .nameAndType 5 29), (0, u "([CIILjava/lang/Void;)V"), (8, .fieldref 10 39), (0, .nameAndType 40 26), (0, u "COMPACT_STRINGS"), (1, .class_ 44), (1, u "java/lang/StringUTF16"), (0, u "compress"), (1, .methodref 42 48), (0, .nameAndType 49 50), (0, u "coderFromArrayLen"), (0, u "([BI)B"), (56, .class_ 109), (1, u "java/lang/StringLatin1"), (67, .methodref 42 178), (0, .nameAndType 45 179), (0, u "([CII)[B"), (361, .methodref 107 542), (0, .nameAndType 543 544), (0, u "equals"), (0, u "([B[B)Z"), (28, u "(Ljava/lang/Object;)Z"), (1, .class_ 576), (0, u "java/lang/CharSequence"), (22, u "CASE_INSENSITIVE_ORDER"), (0, u "Ljava/util/Comparator;"), (409, u "([C)V"), (90, u "serialPersistentFields"), (0, u "[Ljava/io/ObjectStreamField;"), (0, .class_ 1104), (0, u "java/lang/String$CaseInsensitiveComparator"), (1, .class_ 1107), (0, u "java/io/Serializable"), (0, .class_ 1109), (0, u "java/lang/Comparable"), (0, .class_ 1111), (0, u "java/lang/constant/Constable"), (0, .class_ 1113), (0, u "java/lang/constant/ConstantDesc"), (2, u "serialVersionUID"), (0, u "J"), (3, u "REPL"), (0, u "C"), (2, u "LATIN1"), (1, u "UTF16")] 323

def k7m0 : Method := { name := "<init>", desc := "()V", sig := { parameters := [], returnType := none }, accessFlags := 1, code := none }
def k7c1 : Code := { maxStack := 5, maxLocals := 2, code := jdk_42_method_3_code, exceptionTable := #[], attributes := #[] }
def k7m1 : Method := { name := "<init>", desc := "([C)V", sig := { parameters := [(.array .char)], returnType := none }, accessFlags := 1, code := some k7c1 }
def k7c2 : Code := { maxStack := 2, maxLocals := 3, code := jdk_42_method_66_code, exceptionTable := #[], attributes := #[] }
def k7m2 : Method := { name := "equals", desc := "(Ljava/lang/Object;)Z", sig := { parameters := [(.object "java/lang/Object")], returnType := some .boolean }, accessFlags := 1, code := some k7c2 }
def k7c3 : Code := { maxStack := 4, maxLocals := 6, code := jdk_42_method_149_code, exceptionTable := #[], attributes := #[] }
def k7m3 : Method := { name := "<init>", desc := "([CIILjava/lang/Void;)V", sig := { parameters := [(.array .char), .int, .int, (.object "java/lang/Void")], returnType := none }, accessFlags := 2, code := some k7c3 }
/-- java/lang/String -/
def k7 : Class := { plain "java/lang/String" (some 0) with
  accessFlags := 49
  interfaces := #[2, 3, 4, 5, 6]
  cf := some (fileOf pool7 10 #[.nestMembers #[1103]] #[{ accessFlags := 1, nameIndex := 5, descriptorIndex := 6, attributes := #[] }, { accessFlags := 1, nameIndex := 5, descriptorIndex := 1010, attributes := #[] }, { accessFlags := 1, nameIndex := 543, descriptorIndex := 573, attributes := #[] }, { accessFlags := 2, nameIndex := 5, descriptorIndex := 29, attributes := #[] }] 49 2 #[1106, 1108, 575, 1110, 1112] #[{ accessFlags := 18, nameIndex := 13, descriptorIndex := 14, attributes := #[] }, { accessFlags := 18, nameIndex := 17, descriptorIndex := 18, attributes := #[] }, { accessFlags := 2, nameIndex := 21, descriptorIndex := 22, attributes := #[] }, { accessFlags := 2, nameIndex := 25, descriptorIndex := 26, attributes := #[] }, { accessFlags := 26, nameIndex := 1116, descriptorIndex := 1117, attributes := #[] }, { accessFlags := 24, nameIndex := 40, descriptorIndex := 26, attributes := #[] }, { accessFlags := 26, nameIndex := 1101, descriptorIndex := 1102, attributes := #[] }, { accessFlags := 26, nameIndex := 1121, descriptorIndex := 1122, attributes := #[] }, { accessFlags := 25, nameIndex := 599, descriptorIndex := 600, attributes := #[] }, { accessFlags := 24, nameIndex := 1125, descriptorIndex := 18, attributes := #[] }, { accessFlags := 24, nameIndex := 1127, descriptorIndex := 18, attributes := #[] }])
  fields := #[{ name := "value", type := (.array .byte), accessFlags := 18, slot := 0, constantValue := 0 }, { name := "coder", type := .byte, accessFlags := 18, slot := 1, constantValue := 0 }, { name := "hash", type := .int, accessFlags := 2, slot := 2, constantValue := 0 }, { name := "hashIsZero", type := .boolean, accessFlags := 2, slot := 3, constantValue := 0 }, { name := "serialVersionUID", type := .long, accessFlags := 26, slot := 0, constantValue := 0 }, { name := "COMPACT_STRINGS", type := .boolean, accessFlags := 24, slot := 1, constantValue := 0 }, { name := "serialPersistentFields", type := (.array (.object "java/io/ObjectStreamField")), accessFlags := 26, slot := 2, constantValue := 0 }, { name := "REPL", type := .char, accessFlags := 26, slot := 3, constantValue := 0 }, { name := "CASE_INSENSITIVE_ORDER", type := (.object "java/util/Comparator"), accessFlags := 25, slot := 4, constantValue := 0 }, { name := "LATIN1", type := .byte, accessFlags := 24, slot := 5, constantValue := 0 }, { name := "UTF16", type := .byte, accessFlags := 24, slot := 6, constantValue := 0 }]
  methods := #[k7m0, k7m1, k7m2, k7m3]
  instanceTypes := #[(.array .byte), .byte, .int, .boolean]
  staticTypes := #[.long, .boolean, (.array (.object "java/io/ObjectStreamField")), .char, (.object "java/util/Comparator"), .byte, .byte]
  resolved := Array.replicate 1451 none
  statics := some 0 }

def pool8 : Array CpInfo := pool [(1, .methodref 2 3), (0, .class_ 4), (0, .nameAndType 5 6), (0, u "java/lang/Object"), (0, u "<init>"), (0, u "()V"), (0, .string 8), (0, u "kind"), (0, .methodref 10 11), (0, .class_ 12), (0, .nameAndType 13 14), (0, u "java/util/Objects"), (0, u "requireNonNull"), (0, u "(Ljava/lang/Object;Ljava/lang/String;)Ljava/lang/Object;"), (0, .class_ 16), (0, u "com/example/aspen/aspen/model/PolicyIdentifier$Kind"), (0, .fieldref 18 19), (0, .class_ 20), (0, .nameAndType 8 21), (0, u "com/example/aspen/aspen/model/PolicyIdentifier"), (0, u "Lcom/example/aspen/aspen/model/PolicyIdentifier$Kind;"), (0, .string 23), (0, u "id"), (0, .class_ 25), (0, u "java/lang/String"), (0, .fieldref 18 27), (0, .nameAndType 23 28), (0, u "Ljava/lang/String;"), (0, .string 30), (0, u "version"), (0, .fieldref 18 32), (0, .nameAndType 30 28), (0, .methodref 24 34), (0, .nameAndType 35 36), (0, u "equals"), (0, u "(Ljava/lang/Object;)Z"), (12, u "(Lcom/example/aspen/aspen/model/PolicyIdentifier$Kind;Ljava/lang/String;Ljava/lang/String;)V")] 26

def k8c0 : Code := { maxStack := 3, maxLocals := 4, code := prog_121_method_1_code, exceptionTable := #[], attributes := #[] }
def k8m0 : Method := { name := "<init>", desc := "(Lcom/example/aspen/aspen/model/PolicyIdentifier$Kind;Ljava/lang/String;Ljava/lang/String;)V", sig := { parameters := [(.object "com/example/aspen/aspen/model/PolicyIdentifier$Kind"), (.object "java/lang/String"), (.object "java/lang/String")], returnType := none }, accessFlags := 1, code := some k8c0 }
def k8c1 : Code := { maxStack := 2, maxLocals := 3, code := prog_121_method_5_code, exceptionTable := #[], attributes := #[] }
def k8m1 : Method := { name := "equals", desc := "(Ljava/lang/Object;)Z", sig := { parameters := [(.object "java/lang/Object")], returnType := some .boolean }, accessFlags := 1, code := some k8c1 }
/-- com/example/aspen/aspen/model/PolicyIdentifier -/
def k8 : Class := { plain "com/example/aspen/aspen/model/PolicyIdentifier" (some 0) with
  accessFlags := 49
  interfaces := #[]
  cf := some (fileOf pool8 18 #[.nestMembers #[15]] #[{ accessFlags := 1, nameIndex := 5, descriptorIndex := 49, attributes := #[] }, { accessFlags := 1, nameIndex := 35, descriptorIndex := 36, attributes := #[] }] 49 2 #[] #[{ accessFlags := 18, nameIndex := 8, descriptorIndex := 21, attributes := #[] }, { accessFlags := 18, nameIndex := 23, descriptorIndex := 28, attributes := #[] }, { accessFlags := 18, nameIndex := 30, descriptorIndex := 28, attributes := #[] }])
  fields := #[{ name := "kind", type := (.object "com/example/aspen/aspen/model/PolicyIdentifier$Kind"), accessFlags := 18, slot := 0, constantValue := 0 }, { name := "id", type := (.object "java/lang/String"), accessFlags := 18, slot := 1, constantValue := 0 }, { name := "version", type := (.object "java/lang/String"), accessFlags := 18, slot := 2, constantValue := 0 }]
  methods := #[k8m0, k8m1]
  instanceTypes := #[(.object "com/example/aspen/aspen/model/PolicyIdentifier$Kind"), (.object "java/lang/String"), (.object "java/lang/String")]
  staticTypes := #[]
  resolved := Array.replicate 76 none
  statics := none }

def pool9 : Array CpInfo := pool [(2, .class_ 4), (1, u "java/lang/Enum"), (0, u "name"), (0, u "Ljava/lang/String;"), (2, u "ordinal"), (0, u "I"), (1, .class_ 14), (1, u "java/lang/Object"), (4, u "hash"), (86, .class_ 108), (1, u "java/lang/Enum$EnumDesc"), (2, .class_ 112), (0, u "java/lang/constant/Constable"), (0, .class_ 114), (0, u "java/lang/Comparable"), (0, .class_ 116), (0, u "java/io/Serializable")] 87

/-- java/lang/Enum -/
def k9 : Class := { plain "java/lang/Enum" (some 0) with
  accessFlags := 1057
  interfaces := #[5, 3, 2]
  cf := some (fileOf pool9 2 #[.nestMembers #[106]] #[] 1057 12 #[111, 113, 115] #[{ accessFlags := 18, nameIndex := 5, descriptorIndex := 6, attributes := #[] }, { accessFlags := 18, nameIndex := 9, descriptorIndex := 10, attributes := #[] }, { accessFlags := 2, nameIndex := 19, descriptorIndex := 10, attributes := #[] }])
  fields := #[{ name := "name", type := (.object "java/lang/String"), accessFlags := 18, slot := 0, constantValue := 0 }, { name := "ordinal", type := .int, accessFlags := 18, slot := 1, constantValue := 0 }, { name := "hash", type := .int, accessFlags := 2, slot := 2, constantValue := 0 }]
  methods := #[]
  instanceTypes := #[(.object "java/lang/String"), .int, .int]
  staticTypes := #[]
  resolved := Array.replicate 204 none
  statics := none }

def pool10 : Array CpInfo := pool [(1, .class_ 2), (0, u "com/example/aspen/aspen/model/PolicyIdentifier$Kind"), (2, u "POLICY"), (0, u "Lcom/example/aspen/aspen/model/PolicyIdentifier$Kind;"), (2, u "POLICY_SET"), (2, u "$VALUES"), (0, u "[Lcom/example/aspen/aspen/model/PolicyIdentifier$Kind;"), (6, .class_ 22), (1, u "java/lang/Enum"), (8, u "xacmlName"), (0, u "Ljava/lang/String;"), (27, .class_ 61), (0, u "com/example/aspen/aspen/model/PolicyIdentifier")] 2

/-- com/example/aspen/aspen/model/PolicyIdentifier$Kind -/
def k10 : Class := { plain "com/example/aspen/aspen/model/PolicyIdentifier$Kind" (some 9) with
  accessFlags := 16433
  interfaces := #[]
  cf := some (fileOf pool10 1 #[.nestHost 60] #[] 16433 20 #[] #[{ accessFlags := 16409, nameIndex := 5, descriptorIndex := 6, attributes := #[] }, { accessFlags := 16409, nameIndex := 9, descriptorIndex := 6, attributes := #[] }, { accessFlags := 18, nameIndex := 31, descriptorIndex := 32, attributes := #[] }, { accessFlags := 4122, nameIndex := 12, descriptorIndex := 13, attributes := #[] }])
  fields := #[{ name := "POLICY", type := (.object "com/example/aspen/aspen/model/PolicyIdentifier$Kind"), accessFlags := 16409, slot := 0, constantValue := 0 }, { name := "POLICY_SET", type := (.object "com/example/aspen/aspen/model/PolicyIdentifier$Kind"), accessFlags := 16409, slot := 1, constantValue := 0 }, { name := "xacmlName", type := (.object "java/lang/String"), accessFlags := 18, slot := 3, constantValue := 0 }, { name := "$VALUES", type := (.array (.object "com/example/aspen/aspen/model/PolicyIdentifier$Kind")), accessFlags := 4122, slot := 2, constantValue := 0 }]
  methods := #[]
  instanceTypes := #[(.object "java/lang/String"), .int, .int, (.object "java/lang/String")]
  staticTypes := #[(.object "com/example/aspen/aspen/model/PolicyIdentifier$Kind"), (.object "com/example/aspen/aspen/model/PolicyIdentifier$Kind"), (.array (.object "com/example/aspen/aspen/model/PolicyIdentifier$Kind"))]
  resolved := Array.replicate 64 none
  statics := some 1 }

def pool11 : Array CpInfo := pool [(2, .class_ 4), (1, u "java/lang/Object"), (0, u "<init>"), (0, u "()V"), (35, .class_ 44), (1, u "java/util/Objects"), (0, u "requireNonNull"), (48, u "(Ljava/lang/Object;Ljava/lang/String;)Ljava/lang/Object;")] 89

def k11m0 : Method := { name := "<init>", desc := "()V", sig := { parameters := [], returnType := none }, accessFlags := 2, code := none }
def k11c1 : Code := { maxStack := 3, maxLocals := 2, code := jdk_31_method_11_code, exceptionTable := #[], attributes := #[] }
def k11m1 : Method := { name := "requireNonNull", desc := "(Ljava/lang/Object;Ljava/lang/String;)Ljava/lang/Object;", sig := { parameters := [(.object "java/lang/Object"), (.object "java/lang/String")], returnType := some (.object "java/lang/Object") }, accessFlags := 9, code := some k11c1 }
/-- java/util/Objects -/
def k11 : Class := { plain "java/util/Objects" (some 0) with
  accessFlags := 49
  interfaces := #[]
  cf := some (fileOf pool11 42 #[] #[{ accessFlags := 2, nameIndex := 5, descriptorIndex := 6, attributes := #[] }, { accessFlags := 9, nameIndex := 45, descriptorIndex := 94, attributes := #[] }] 49 2 #[] #[])
  fields := #[]
  methods := #[k11m0, k11m1]
  instanceTypes := #[]
  staticTypes := #[]
  resolved := Array.replicate 184 none
  statics := none }

def pool12 : Array CpInfo := pool [(6, .class_ 8), (1, u "java/lang/Object"), (0, u "<init>"), (0, u "()V"), (1, .class_ 14), (1, u "java/lang/StringUTF16"), (31, u "$assertionsDisabled"), (0, u "Z"), (13, u "HI_BYTE_SHIFT"), (0, u "I"), (2, u "LO_BYTE_SHIFT"), (49, .methodref 12 116), (0, .nameAndType 117 118), (0, u "compress"), (0, u "([CI[BII)I"), (3, u "([CII)[B"), (138, u "coderFromArrayLen"), (0, u "([BI)B"), (106, .class_ 371), (1, u "java/lang/StringUTF16$LinesSpliterator"), (58, u "MAX_LENGTH"), (196, .class_ 628), (0, u "java/lang/StringUTF16$CodePointsSpliterator"), (0, .class_ 630), (0, u "java/lang/StringUTF16$CharsSpliterator")] 4

def k12m0 : Method := { name := "<init>", desc := "()V", sig := { parameters := [], returnType := none }, accessFlags := 0, code := none }
def k12c1 : Code := { maxStack := 2, maxLocals := 2, code := jdk_52_method_15_code, exceptionTable := #[], attributes := #[] }
def k12m1 : Method := { name := "coderFromArrayLen", desc := "([BI)B", sig := { parameters := [(.array .byte), .int], returnType := some .byte }, accessFlags := 8, code := some k12c1 }
def k12c2 : Code := { maxStack := 5, maxLocals := 6, code := jdk_52_method_16_code, exceptionTable := #[], attributes := #[] }
def k12m2 : Method := { name := "compress", desc := "([CII)[B", sig := { parameters := [(.array .char), .int, .int], returnType := some (.array .byte) }, accessFlags := 9, code := some k12c2 }
def k12c3 : Code := { maxStack := 3, maxLocals := 7, code := jdk_52_method_21_code, exceptionTable := #[], attributes := #[] }
def k12m3 : Method := { name := "compress", desc := "([CI[BII)I", sig := { parameters := [(.array .char), .int, (.array .byte), .int, .int], returnType := some .int }, accessFlags := 9, code := some k12c3 }
/-- java/lang/StringUTF16 -/
def k12 : Class := { plain "java/lang/StringUTF16" (some 0) with
  accessFlags := 48
  interfaces := #[]
  cf := some (fileOf pool12 12 #[.nestMembers #[627, 629, 369]] #[{ accessFlags := 0, nameIndex := 9, descriptorIndex := 10, attributes := #[] }, { accessFlags := 8, nameIndex := 261, descriptorIndex := 262, attributes := #[] }, { accessFlags := 9, nameIndex := 117, descriptorIndex := 122, attributes := #[] }, { accessFlags := 9, nameIndex := 117, descriptorIndex := 118, attributes := #[] }] 48 6 #[] #[{ accessFlags := 26, nameIndex := 61, descriptorIndex := 62, attributes := #[] }, { accessFlags := 26, nameIndex := 65, descriptorIndex := 62, attributes := #[] }, { accessFlags := 24, nameIndex := 430, descriptorIndex := 62, attributes := #[] }, { accessFlags := 4120, nameIndex := 46, descriptorIndex := 47, attributes := #[] }])
  fields := #[{ name := "HI_BYTE_SHIFT", type := .int, accessFlags := 26, slot := 0, constantValue := 0 }, { name := "LO_BYTE_SHIFT", type := .int, accessFlags := 26, slot := 1, constantValue := 0 }, { name := "MAX_LENGTH", type := .int, accessFlags := 24, slot := 2, constantValue := 0 }, { name := "$assertionsDisabled", type := .boolean, accessFlags := 4120, slot := 3, constantValue := 0 }]
  methods := #[k12m0, k12m1, k12m2, k12m3]
  instanceTypes := #[]
  staticTypes := #[.int, .int, .int, .boolean]
  resolved := Array.replicate 635 none
  statics := none }

def pool13 : Array CpInfo := pool [(4, .class_ 6), (1, u "java/lang/Object"), (0, u "<init>"), (0, u "()V"), (5, .class_ 16), (1, u "java/lang/StringLatin1"), (104, u "$assertionsDisabled"), (0, u "Z"), (98, .class_ 223), (1, u "java/lang/StringLatin1$LinesSpliterator"), (57, u "equals"), (0, u "([B[B)Z"), (107, .class_ 391), (0, u "java/lang/StringLatin1$CharsSpliterator")] 3

def k13m0 : Method := { name := "<init>", desc := "()V", sig := { parameters := [], returnType := none }, accessFlags := 0, code := none }
def k13c1 : Code := { maxStack := 3, maxLocals := 3, code := jdk_43_method_13_code, exceptionTable := #[], attributes := #[] }
def k13m1 : Method := { name := "equals", desc := "([B[B)Z", sig := { parameters := [(.array .byte), (.array .byte)], returnType := some .boolean }, accessFlags := 9, code := some k13c1 }
/-- java/lang/StringLatin1 -/
def k13 : Class := { plain "java/lang/StringLatin1" (some 0) with
  accessFlags := 48
  interfaces := #[]
  cf := some (fileOf pool13 14 #[.nestMembers #[390, 221]] #[{ accessFlags := 0, nameIndex := 7, descriptorIndex := 8, attributes := #[] }, { accessFlags := 9, nameIndex := 281, descriptorIndex := 282, attributes := #[] }] 48 4 #[] #[{ accessFlags := 4120, nameIndex := 121, descriptorIndex := 122, attributes := #[] }])
  fields := #[{ name := "$assertionsDisabled", type := .boolean, accessFlags := 4120, slot := 0, constantValue := 0 }]
  methods := #[k13m0, k13m1]
  instanceTypes := #[]
  staticTypes := #[.boolean]
  resolved := Array.replicate 395 none
  statics := none }

def pool14 : Array CpInfo := pool [(2, .class_ 4), (1, u "java/lang/Object"), (0, u "<init>"), (0, u "()V"), (17, .class_ 26), (1, u "jdk/internal/util/Preconditions"), (28, .class_ 56), (0, u "jdk/internal/util/Preconditions$4"), (57, .class_ 115), (0, u "jdk/internal/util/Preconditions$1"), (7, u "SIOOBE_FORMATTER"), (0, u "Ljava/util/function/BiFunction;"), (0, .class_ 126), (0, u "jdk/internal/util/Preconditions$2"), (3, u "AIOOBE_FORMATTER"), (0, .class_ 132), (0, u "jdk/internal/util/Preconditions$3"), (3, u "IOOBE_FORMATTER")] 57

def k14m0 : Method := { name := "<init>", desc := "()V", sig := { parameters := [], returnType := none }, accessFlags := 1, code := none }
/-- jdk/internal/util/Preconditions -/
def k14 : Class := { plain "jdk/internal/util/Preconditions" (some 0) with
  accessFlags := 33
  interfaces := #[]
  cf := some (fileOf pool14 24 #[.nestMembers #[55, 131, 125, 114]] #[{ accessFlags := 1, nameIndex := 5, descriptorIndex := 6, attributes := #[] }] 33 2 #[] #[{ accessFlags := 25, nameIndex := 123, descriptorIndex := 124, attributes := #[] }, { accessFlags := 25, nameIndex := 130, descriptorIndex := 124, attributes := #[] }, { accessFlags := 25, nameIndex := 136, descriptorIndex := 124, attributes := #[] }])
  fields := #[{ name := "SIOOBE_FORMATTER", type := (.object "java/util/function/BiFunction"), accessFlags := 25, slot := 0, constantValue := 0 }, { name := "AIOOBE_FORMATTER", type := (.object "java/util/function/BiFunction"), accessFlags := 25, slot := 1, constantValue := 0 }, { name := "IOOBE_FORMATTER", type := (.object "java/util/function/BiFunction"), accessFlags := 25, slot := 2, constantValue := 0 }]
  methods := #[k14m0]
  instanceTypes := #[]
  staticTypes := #[(.object "java/util/function/BiFunction"), (.object "java/util/function/BiFunction"), (.object "java/util/function/BiFunction")]
  resolved := Array.replicate 194 none
  statics := some 2 }

def pool15 : Array CpInfo := pool [(9, u "<init>"), (6, .class_ 18), (1, u "java/lang/Object"), (0, u "()V"), (1, .class_ 23), (1, u "jdk/internal/util/ArraysSupport"), (0, u "LOG2_ARRAY_LONG_INDEX_SCALE"), (0, u "I"), (2, u "U"), (0, u "Ljdk/internal/misc/Unsafe;"), (8, u "BIG_ENDIAN"), (0, u "Z"), (8, u "LOG2_BYTE_BIT_SIZE"), (4, u "LOG2_ARRAY_INT_INDEX_SCALE"), (54, u "JLA"), (0, u "Ljdk/internal/access/JavaLangAccess;"), (11, u "LOG2_ARRAY_BOOLEAN_INDEX_SCALE"), (9, u "LOG2_ARRAY_BYTE_INDEX_SCALE"), (5, u "LOG2_ARRAY_CHAR_INDEX_SCALE"), (5, u "LOG2_ARRAY_SHORT_INDEX_SCALE"), (18, u "LOG2_ARRAY_FLOAT_INDEX_SCALE"), (24, u "LOG2_ARRAY_DOUBLE_INDEX_SCALE"), (89, u "T_BOOLEAN"), (2, u "T_CHAR"), (1, u "T_FLOAT"), (1, u "T_DOUBLE"), (1, u "T_BYTE"), (1, u "T_SHORT"), (1, u "T_INT"), (1, u "T_LONG"), (1, u "SOFT_MAX_ARRAY_LENGTH")] 83

def k15m0 : Method := { name := "<init>", desc := "()V", sig := { parameters := [], returnType := none }, accessFlags := 2, code := none }
/-- jdk/internal/util/ArraysSupport -/
def k15 : Class := { plain "jdk/internal/util/ArraysSupport" (some 0) with
  accessFlags := 33
  interfaces := #[]
  cf := some (fileOf pool15 21 #[] #[{ accessFlags := 2, nameIndex := 9, descriptorIndex := 19, attributes := #[] }] 33 16 #[] #[{ accessFlags := 24, nameIndex := 28, descriptorIndex := 29, attributes := #[] }, { accessFlags := 26, nameIndex := 38, descriptorIndex := 39, attributes := #[] }, { accessFlags := 25, nameIndex := 121, descriptorIndex := 25, attributes := #[] }, { accessFlags := 25, nameIndex := 131, descriptorIndex := 25, attributes := #[] }, { accessFlags := 25, nameIndex := 137, descriptorIndex := 25, attributes := #[] }, { accessFlags := 25, nameIndex := 143, descriptorIndex := 25, attributes := #[] }, { accessFlags := 25, nameIndex := 53, descriptorIndex := 25, attributes := #[] }, { accessFlags := 25, nameIndex := 24, descriptorIndex := 25, attributes := #[] }, { accessFlags := 25, nameIndex := 162, descriptorIndex := 25, attributes := #[] }, { accessFlags := 25, nameIndex := 187, descriptorIndex := 25, attributes := #[] }, { accessFlags := 26, nameIndex := 48, descriptorIndex := 25, attributes := #[] }, { accessFlags := 25, nameIndex := 277, descriptorIndex := 25, attributes := #[] }, { accessFlags := 25, nameIndex := 280, descriptorIndex := 25, attributes := #[] }, { accessFlags := 25, nameIndex := 282, descriptorIndex := 25, attributes := #[] }, { accessFlags := 25, nameIndex := 284, descriptorIndex := 25, attributes := #[] }, { accessFlags := 25, nameIndex := 286, descriptorIndex := 25, attributes := #[] }, { accessFlags := 25, nameIndex := 288, descriptorIndex := 25, attributes := #[] }, { accessFlags := 25, nameIndex := 290, descriptorIndex := 25, attributes := #[] }, { accessFlags := 25, nameIndex := 292, descriptorIndex := 25, attributes := #[] }, { accessFlags := 26, nameIndex := 108, descriptorIndex := 109, attributes := #[] }, { accessFlags := 25, nameIndex := 294, descriptorIndex := 25, attributes := #[] }])
  fields := #[{ name := "U", type := (.object "jdk/internal/misc/Unsafe"), accessFlags := 24, slot := 0, constantValue := 0 }, { name := "BIG_ENDIAN", type := .boolean, accessFlags := 26, slot := 1, constantValue := 0 }, { name := "LOG2_ARRAY_BOOLEAN_INDEX_SCALE", type := .int, accessFlags := 25, slot := 2, constantValue := 0 }, { name := "LOG2_ARRAY_BYTE_INDEX_SCALE", type := .int, accessFlags := 25, slot := 3, constantValue := 0 }, { name := "LOG2_ARRAY_CHAR_INDEX_SCALE", type := .int, accessFlags := 25, slot := 4, constantValue := 0 }, { name := "LOG2_ARRAY_SHORT_INDEX_SCALE", type := .int, accessFlags := 25, slot := 5, constantValue := 0 }, { name := "LOG2_ARRAY_INT_INDEX_SCALE", type := .int, accessFlags := 25, slot := 6, constantValue := 0 }, { name := "LOG2_ARRAY_LONG_INDEX_SCALE", type := .int, accessFlags := 25, slot := 7, constantValue := 0 }, { name := "LOG2_ARRAY_FLOAT_INDEX_SCALE", type := .int, accessFlags := 25, slot := 8, constantValue := 0 }, { name := "LOG2_ARRAY_DOUBLE_INDEX_SCALE", type := .int, accessFlags := 25, slot := 9, constantValue := 0 }, { name := "LOG2_BYTE_BIT_SIZE", type := .int, accessFlags := 26, slot := 10, constantValue := 0 }, { name := "T_BOOLEAN", type := .int, accessFlags := 25, slot := 11, constantValue := 0 }, { name := "T_CHAR", type := .int, accessFlags := 25, slot := 12, constantValue := 0 }, { name := "T_FLOAT", type := .int, accessFlags := 25, slot := 13, constantValue := 0 }, { name := "T_DOUBLE", type := .int, accessFlags := 25, slot := 14, constantValue := 0 }, { name := "T_BYTE", type := .int, accessFlags := 25, slot := 15, constantValue := 0 }, { name := "T_SHORT", type := .int, accessFlags := 25, slot := 16, constantValue := 0 }, { name := "T_INT", type := .int, accessFlags := 25, slot := 17, constantValue := 0 }, { name := "T_LONG", type := .int, accessFlags := 25, slot := 18, constantValue := 0 }, { name := "JLA", type := (.object "jdk/internal/access/JavaLangAccess"), accessFlags := 26, slot := 19, constantValue := 0 }, { name := "SOFT_MAX_ARRAY_LENGTH", type := .int, accessFlags := 25, slot := 20, constantValue := 0 }]
  methods := #[k15m0]
  instanceTypes := #[]
  staticTypes := #[(.object "jdk/internal/misc/Unsafe"), .boolean, .int, .int, .int, .int, .int, .int, .int, .int, .int, .int, .int, .int, .int, .int, .int, .int, .int, (.object "jdk/internal/access/JavaLangAccess"), .int]
  resolved := Array.replicate 378 none
  statics := none }

def pool16 : Array CpInfo := pool [(1, u "java/lang/Cloneable"), (0, .class_ 1), (0, u "java/lang/Object"), (0, .class_ 3)] 3

/-- java/lang/Cloneable -/
def k16 : Class := { plain "java/lang/Cloneable" (some 0) with
  accessFlags := 1537
  interfaces := #[]
  cf := some (fileOf pool16 2 #[] #[] 1537 4 #[] #[])
  fields := #[]
  methods := #[]
  instanceTypes := #[]
  staticTypes := #[]
  resolved := Array.replicate 8 none
  statics := none }

/-- the primitive byte -/
def k17 : Class := { plain "byte" none with kind := .primitive 'B', accessFlags := 0x411 }
/-- [B -/
def k18 : Class := { plain "[B" (some 0) with kind := .array 17 .byte, interfaces := #[16, 2], accessFlags := 1041 }

/-- the primitive char -/
def k19 : Class := { plain "char" none with kind := .primitive 'C', accessFlags := 0x411 }
/-- [C -/
def k20 : Class := { plain "[C" (some 0) with kind := .array 19 .char, interfaces := #[16, 2], accessFlags := 1041 }

def heap : Heap := #[{ cls := 7, slots := #[.long 0, .int 1, .null, .int 0, .null, .int 0, .int 0], vm := .statics 7 },
  { cls := 10, slots := #[.ref 3, .ref 4, .null], vm := .statics 10 },
  { cls := 14, slots := #[.null, .null, .null], vm := .statics 14 },
  { cls := 10, slots := #[.null, .int 0, .int 0, .null], vm := .none },
  { cls := 10, slots := #[.null, .int 1, .int 0, .null], vm := .none }]
def classes : Array Class := #[k0, k1, k2, k3, k4, k5, k6, k7, k8, k9, k10, k11, k12, k13, k14, k15, k16, k17, k18, k19, k20]
def interned : List (Array UInt16 × Addr) := []
def slotsUsed : Nat := 21
def theMethod : MethodId := ⟨1, 4⟩
def args0 : Array Value := #[.int 5, .int 5, .int 5, .int 5, .int 5, .int 5]
def aboutOver (below : List Frame) : State where
  vm := { classes := classes, interned := interned.toArray }
  heap := heap
  slotsUsed := slotsUsed
  threads := #[{ frames := .invoking theMethod args0 :: below }]
def below0 : List Frame := [.native { method := ⟨0, 0⟩, args := #[] }]
def about1 : State := aboutOver below0
def p0 : Program := .bare "" "" ""
def e0 : Env := launch0.env 0 0 0
theorem w_frames : about1.frames = Frame.invoking theMethod args0 :: below0 := rfl
set_option maxRecDepth 65536 in
theorem w_args : argsFit about1.vm theMethod args0 = true := by decide +kernel
set_option maxRecDepth 65536 in
theorem w_heap : heapFits about1 = true := by decide +kernel
set_option maxRecDepth 65536 in
theorem w_runnable : about1.curStatus? = some .runnable := by decide +kernel
set_option maxRecDepth 65536 in
theorem w_alone : about1.alone = true := by decide +kernel
set_option maxRecDepth 65536 in
theorem w_named : about1.methodNamed? x = some theMethod := by decide +kernel
set_option maxRecDepth 65536 in
theorem w_hears : about1.hears theMethod below0 = true := by decide +kernel
set_option maxRecDepth 65536 in
theorem w_ripe : about1.ripe theMethod args0 below0 = true := by decide +kernel
theorem w_running : about1.status = .running := rfl
set_option maxRecDepth 65536 in
theorem w_room : about1.hasRoom e0.platform room_1 = true :=
  launch0.hasRoom_least _ room_1 (by decide +kernel) (by decide +kernel) (by decide +kernel) (by decide +kernel) (by decide +kernel) (by decide +kernel)
theorem allAtoms_all (ts : List Jvm.Cond) (a : Array Jvm.Value) (st : Jvm.State) : (allAtoms ts).before a st = ts.all (fun c => c.before a st) := by
  induction ts with
  | nil => rfl
  | cons c t ih =>
    show (Jvm.Cond.and c (allAtoms t)).before a st = _
    rw [Jvm.Cond.before_and, ih, List.all_cons]
def words1 : List Jvm.Cond := Jvm.Cond.code x code maxLocals ret :: tables_1
/-- a 'code' word, met by the world's own term for the bytes: nothing is compared byte by byte -/
theorem code_word {y : MethodName} {bytes : ByteArray} {mx : Nat} {rt : Option FieldType} {a : Array Value} {s : State} {m : MethodId} {meth : Method} {c : Code} (h1 : s.methodNamed? y = some m) (h2 : s.vm.method? m = some meth) (h3 : meth.code = some c) (h4 : c.code = bytes)
    (h5 : (c.maxLocals == mx && c.exceptionTable.isEmpty && decide (c.maxStack ≤ mostOperands) && decide (meth.sig.returnType = rt) && !meth.locks && decide (parseMethodDescriptor y.desc = some meth.sig)) = true) : (Jvm.Cond.code y bytes mx rt).before a s = true := by
  simp only [Bool.and_eq_true, beq_iff_eq, Bool.not_eq_true', decide_eq_true_eq] at h5
  obtain ⟨⟨⟨⟨⟨g1, g2⟩, g3⟩, g4⟩, g5⟩, g6⟩ := h5
  simp [Cond.before, Cond.holds, Cond.value, h1, h2, h3, h4, g1, g2, g3, g4, g5, g6]
def isCode : Jvm.Cond → Bool
  | .code _ _ _ _ => true
  | _ => false
theorem all_split {L : List Jvm.Cond} {P : Jvm.Cond → Bool} (h1 : L.all (fun c => isCode c || P c) = true) (h2 : ∀ c ∈ L.filter isCode, P c = true) : L.all P = true := by
  refine List.all_eq_true.mpr fun c hc => ?_
  have h := List.all_eq_true.mp h1 c hc
  rcases Bool.eq_false_or_eq_true (isCode c) with hi | hi
  · exact h2 c (List.mem_filter.mpr ⟨hc, hi⟩)
  · simpa [hi] using h
set_option maxRecDepth 65536 in
theorem w_c0 : (Jvm.Cond.code x code maxLocals ret).before args0 about1 = true := code_word (m := ⟨1, 4⟩) (meth := k1m4) (c := k1c4) (by decide +kernel) rfl rfl rfl (by decide +kernel)
set_option maxRecDepth 65536 in
theorem w_c1 : (Jvm.Cond.code ({ cls := "com/example/aspen/aspen/model/PolicyIdentifierEqualsPinLaw", name := "mk", desc := "(ICC)Ljava/lang/String;" } : Jvm.MethodName) method_2_code (3 : Nat) (Option.some (Jvm.ClassFile.FieldType.object "java/lang/String"))).before args0 about1 = true := code_word (m := ⟨1, 1⟩) (meth := k1m1) (c := k1c1) (by decide +kernel) rfl rfl rfl (by decide +kernel)
set_option maxRecDepth 65536 in
theorem w_c2 : (Jvm.Cond.code ({ cls := "java/lang/String", name := "<init>", desc := "([C)V" } : Jvm.MethodName) jdk_42_method_3_code (2 : Nat) (Option.none : Option Jvm.ClassFile.FieldType)).before args0 about1 = true := code_word (m := ⟨7, 1⟩) (meth := k7m1) (c := k7c1) (by decide +kernel) rfl rfl rfl (by decide +kernel)
set_option maxRecDepth 65536 in
theorem w_c3 : (Jvm.Cond.code ({ cls := "java/lang/String", name := "<init>", desc := "([CIILjava/lang/Void;)V" } : Jvm.MethodName) jdk_42_method_149_code (6 : Nat) (Option.none : Option Jvm.ClassFile.FieldType)).before args0 about1 = true := code_word (m := ⟨7, 3⟩) (meth := k7m3) (c := k7c3) (by decide +kernel) rfl rfl rfl (by decide +kernel)
set_option maxRecDepth 65536 in
theorem w_c4 : (Jvm.Cond.code ({ cls := "java/lang/Object", name := "<init>", desc := "()V" } : Jvm.MethodName) object_method_1_code (1 : Nat) (Option.none : Option Jvm.ClassFile.FieldType)).before args0 about1 = true := code_word (m := ⟨0, 0⟩) (meth := k0m0) (c := k0c0) (by decide +kernel) rfl rfl rfl (by decide +kernel)
set_option maxRecDepth 65536 in
theorem w_c5 : (Jvm.Cond.code ({ cls := "com/example/aspen/aspen/model/PolicyIdentifierEqualsPinLaw", name := "kind", desc := "(Z)Lcom/example/aspen/aspen/model/PolicyIdentifier$Kind;" } : Jvm.MethodName) method_4_code (1 : Nat) (Option.some (Jvm.ClassFile.FieldType.object "com/example/aspen/aspen/model/PolicyIdentifier$Kind"))).before args0 about1 = true := code_word (m := ⟨1, 3⟩) (meth := k1m3) (c := k1c3) (by decide +kernel) rfl rfl rfl (by decide +kernel)
set_option maxRecDepth 65536 in
theorem w_c6 : (Jvm.Cond.code ({ cls := "com/example/aspen/aspen/model/PolicyIdentifier", name := "<init>", desc := "(Lcom/example/aspen/aspen/model/PolicyIdentifier$Kind;Ljava/lang/String;Ljava/lang/String;)V" } : Jvm.MethodName) prog_121_method_1_code (4 : Nat) (Option.none : Option Jvm.ClassFile.FieldType)).before args0 about1 = true := code_word (m := ⟨8, 0⟩) (meth := k8m0) (c := k8c0) (by decide +kernel) rfl rfl rfl (by decide +kernel)
set_option maxRecDepth 65536 in
theorem w_c7 : (Jvm.Cond.code ({ cls := "java/util/Objects", name := "requireNonNull", desc := "(Ljava/lang/Object;Ljava/lang/String;)Ljava/lang/Object;" } : Jvm.MethodName) jdk_31_method_11_code (2 : Nat) (Option.some (Jvm.ClassFile.FieldType.object "java/lang/Object"))).before args0 about1 = true := code_word (m := ⟨11, 1⟩) (meth := k11m1) (c := k11c1) (by decide +kernel) rfl rfl rfl (by decide +kernel)
set_option maxRecDepth 65536 in
theorem w_c8 : (Jvm.Cond.code ({ cls := "com/example/aspen/aspen/model/PolicyIdentifier", name := "equals", desc := "(Ljava/lang/Object;)Z" } : Jvm.MethodName) prog_121_method_5_code (3 : Nat) (Option.some Jvm.ClassFile.FieldType.boolean)).before args0 about1 = true := code_word (m := ⟨8, 1⟩) (meth := k8m1) (c := k8c1) (by decide +kernel) rfl rfl rfl (by decide +kernel)
set_option maxRecDepth 65536 in
theorem w_c9 : (Jvm.Cond.code ({ cls := "java/lang/StringUTF16", name := "compress", desc := "([CII)[B" } : Jvm.MethodName) jdk_52_method_16_code (6 : Nat) (Option.some (Jvm.ClassFile.FieldType.array Jvm.ClassFile.FieldType.byte))).before args0 about1 = true := code_word (m := ⟨12, 2⟩) (meth := k12m2) (c := k12c2) (by decide +kernel) rfl rfl rfl (by decide +kernel)
set_option maxRecDepth 65536 in
theorem w_c10 : (Jvm.Cond.code ({ cls := "java/lang/StringUTF16", name := "compress", desc := "([CI[BII)I" } : Jvm.MethodName) jdk_52_method_21_code (7 : Nat) (Option.some Jvm.ClassFile.FieldType.int)).before args0 about1 = true := code_word (m := ⟨12, 3⟩) (meth := k12m3) (c := k12c3) (by decide +kernel) rfl rfl rfl (by decide +kernel)
set_option maxRecDepth 65536 in
theorem w_c11 : (Jvm.Cond.code ({ cls := "java/lang/StringUTF16", name := "coderFromArrayLen", desc := "([BI)B" } : Jvm.MethodName) jdk_52_method_15_code (2 : Nat) (Option.some Jvm.ClassFile.FieldType.byte)).before args0 about1 = true := code_word (m := ⟨12, 1⟩) (meth := k12m1) (c := k12c1) (by decide +kernel) rfl rfl rfl (by decide +kernel)
set_option maxRecDepth 65536 in
theorem w_c12 : (Jvm.Cond.code ({ cls := "com/example/aspen/aspen/model/PolicyIdentifierEqualsPinLaw", name := "same", desc := "(ICCICC)Z" } : Jvm.MethodName) method_3_code (6 : Nat) (Option.some Jvm.ClassFile.FieldType.boolean)).before args0 about1 = true := code_word (m := ⟨1, 2⟩) (meth := k1m2) (c := k1c2) (by decide +kernel) rfl rfl rfl (by decide +kernel)
set_option maxRecDepth 65536 in
theorem w_c13 : (Jvm.Cond.code ({ cls := "java/lang/String", name := "equals", desc := "(Ljava/lang/Object;)Z" } : Jvm.MethodName) jdk_42_method_66_code (3 : Nat) (Option.some Jvm.ClassFile.FieldType.boolean)).before args0 about1 = true := code_word (m := ⟨7, 2⟩) (meth := k7m2) (c := k7c2) (by decide +kernel) rfl rfl rfl (by decide +kernel)
set_option maxRecDepth 65536 in
theorem w_c14 : (Jvm.Cond.code ({ cls := "java/lang/StringLatin1", name := "equals", desc := "([B[B)Z" } : Jvm.MethodName) jdk_43_method_13_code (3 : Nat) (Option.some Jvm.ClassFile.FieldType.boolean)).before args0 about1 = true := code_word (m := ⟨13, 1⟩) (meth := k13m1) (c := k13c1) (by decide +kernel) rfl rfl rfl (by decide +kernel)
def codes1 : List Jvm.Cond := [Jvm.Cond.code x code maxLocals ret, Jvm.Cond.code ({ cls := "com/example/aspen/aspen/model/PolicyIdentifierEqualsPinLaw", name := "mk", desc := "(ICC)Ljava/lang/String;" } : Jvm.MethodName) method_2_code (3 : Nat) (Option.some (Jvm.ClassFile.FieldType.object "java/lang/String")), Jvm.Cond.code ({ cls := "java/lang/String", name := "<init>", desc := "([C)V" } : Jvm.MethodName) jdk_42_method_3_code (2 : Nat) (Option.none : Option Jvm.ClassFile.FieldType), Jvm.Cond.code ({ cls := "java/lang/String", name := "<init>", desc := "([CIILjava/lang/Void;)V" } : Jvm.MethodName) jdk_42_method_149_code (6 : Nat) (Option.none : Option Jvm.ClassFile.FieldType), Jvm.Cond.code ({ cls := "java/lang/Object", name := "<init>", desc := "()V" } : Jvm.MethodName) object_method_1_code (1 : Nat) (Option.none : Option Jvm.ClassFile.FieldType), Jvm.Cond.code ({ cls := "com/example/aspen/aspen/model/PolicyIdentifierEqualsPinLaw", name := "kind", desc := "(Z)Lcom/example/aspen/aspen/model/PolicyIdentifier$Kind;" } : Jvm.MethodName) method_4_code (1 : Nat) (Option.some (Jvm.ClassFile.FieldType.object "com/example/aspen/aspen/model/PolicyIdentifier$Kind")), Jvm.Cond.code ({ cls := "com/example/aspen/aspen/model/PolicyIdentifier", name := "<init>", desc := "(Lcom/example/aspen/aspen/model/PolicyIdentifier$Kind;Ljava/lang/String;Ljava/lang/String;)V" } : Jvm.MethodName) prog_121_method_1_code (4 : Nat) (Option.none : Option Jvm.ClassFile.FieldType), Jvm.Cond.code ({ cls := "java/util/Objects", name := "requireNonNull", desc := "(Ljava/lang/Object;Ljava/lang/String;)Ljava/lang/Object;" } : Jvm.MethodName) jdk_31_method_11_code (2 : Nat) (Option.some (Jvm.ClassFile.FieldType.object "java/lang/Object")), Jvm.Cond.code ({ cls := "com/example/aspen/aspen/model/PolicyIdentifier", name := "equals", desc := "(Ljava/lang/Object;)Z" } : Jvm.MethodName) prog_121_method_5_code (3 : Nat) (Option.some Jvm.ClassFile.FieldType.boolean), Jvm.Cond.code ({ cls := "java/lang/StringUTF16", name := "compress", desc := "([CII)[B" } : Jvm.MethodName) jdk_52_method_16_code (6 : Nat) (Option.some (Jvm.ClassFile.FieldType.array Jvm.ClassFile.FieldType.byte)), Jvm.Cond.code ({ cls := "java/lang/StringUTF16", name := "compress", desc := "([CI[BII)I" } : Jvm.MethodName) jdk_52_method_21_code (7 : Nat) (Option.some Jvm.ClassFile.FieldType.int), Jvm.Cond.code ({ cls := "java/lang/StringUTF16", name := "coderFromArrayLen", desc := "([BI)B" } : Jvm.MethodName) jdk_52_method_15_code (2 : Nat) (Option.some Jvm.ClassFile.FieldType.byte), Jvm.Cond.code ({ cls := "com/example/aspen/aspen/model/PolicyIdentifierEqualsPinLaw", name := "same", desc := "(ICCICC)Z" } : Jvm.MethodName) method_3_code (6 : Nat) (Option.some Jvm.ClassFile.FieldType.boolean), Jvm.Cond.code ({ cls := "java/lang/String", name := "equals", desc := "(Ljava/lang/Object;)Z" } : Jvm.MethodName) jdk_42_method_66_code (3 : Nat) (Option.some Jvm.ClassFile.FieldType.boolean), Jvm.Cond.code ({ cls := "java/lang/StringLatin1", name := "equals", desc := "([B[B)Z" } : Jvm.MethodName) jdk_43_method_13_code (3 : Nat) (Option.some Jvm.ClassFile.FieldType.boolean)]
set_option maxRecDepth 65536 in
theorem codes_eq : words1.filter isCode = codes1 := rfl
theorem w_codes : ∀ c ∈ words1.filter isCode, c.before args0 about1 = true := by
  rw [codes_eq]
  intro c hc
  simp only [codes1, List.mem_cons, List.not_mem_nil, or_false] at hc
  rcases hc with rfl | rfl | rfl | rfl | rfl | rfl | rfl | rfl | rfl | rfl | rfl | rfl | rfl | rfl | rfl
  · exact w_c0
  · exact w_c1
  · exact w_c2
  · exact w_c3
  · exact w_c4
  · exact w_c5
  · exact w_c6
  · exact w_c7
  · exact w_c8
  · exact w_c9
  · exact w_c10
  · exact w_c11
  · exact w_c12
  · exact w_c13
  · exact w_c14
set_option maxRecDepth 65536 in
theorem w_t1 : (words1.take 24).all (fun c => isCode c || c.before args0 about1) = true := by decide +kernel
set_option maxRecDepth 65536 in
theorem w_t2 : ((words1.drop 24).take 24).all (fun c => isCode c || c.before args0 about1) = true := by decide +kernel
set_option maxRecDepth 65536 in
theorem w_t3 : (((words1.drop 24).drop 24).take 24).all (fun c => isCode c || c.before args0 about1) = true := by decide +kernel
set_option maxRecDepth 65536 in
theorem w_t4 : (((words1.drop 24).drop 24).drop 24).all (fun c => isCode c || c.before args0 about1) = true := by decide +kernel
theorem w_tables : (allAtoms (Jvm.Cond.code x code maxLocals ret :: tables_1)).before args0 about1 = true := by
  rw [allAtoms_all]
  show words1.all (fun c => c.before args0 about1) = true
  refine all_split ?_ w_codes
  rw [← List.take_append_drop 24 words1, List.all_append, w_t1, ← List.take_append_drop 24 (words1.drop 24), List.all_append, w_t2, ← List.take_append_drop 24 ((words1.drop 24).drop 24), List.all_append, w_t3, w_t4]
  rfl
set_option maxRecDepth 65536 in
theorem w_rest : rest_1_c.before args0 about1 = true := by decide +kernel
set_option maxRecDepth 65536 in
theorem w_case : (Jvm.Cond.and given_1 narrow_1).before args0 about1 = true := by decide +kernel
set_option maxRecDepth 65536 in
theorem w_consts : constsHeld consts_1 about1 := Jvm.Lit.constsHeldB_iff.mp (by decide +kernel)
theorem w_applies : (headSpec (Jvm.Cond.code x code maxLocals ret :: tables_1) room_1).applies x e0.platform about1 = true :=
  (Spec.applies_iff w_frames).mpr ⟨w_running, w_runnable, w_alone, w_named, w_hears, w_ripe, w_room, w_tables⟩
theorem atStart : AtStart classFile x code maxLocals ret World_1 tables_1 room_1 Calls_1 rest_1 Pre_1 launch0 p0 e0 about1 theMethod args0 below0 :=
  ⟨lists_1, trivial, launch0.admits_env _ _ _, launch0.least_env, fairChoices_fair.cas, fairChoices_fair.clock, w_frames, w_args, w_heap, w_applies, ⟨w_consts, trivial⟩, w_rest, w_case⟩
end start1
theorem witness_1 : WitnessClaimed_1 := ⟨start1.p0, start1.e0, start1.about1, start1.theMethod, start1.args0, start1.below0, start1.atStart⟩
end Jvm.Pilot.@@N@@
