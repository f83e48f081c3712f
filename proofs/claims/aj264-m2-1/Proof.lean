import JvmDerived
import JvmDerived.Pilot.@@N@@Statement
import JvmDerived.Pilot.@@N@@Code
set_option linter.unusedVariables false
set_option linter.unusedSimpArgs false
namespace Jvm.Pilot.@@N@@
open Jvm Jvm.ClassFile Sem Op Lib Jvm.Free Jvm.Stand Jvm.LawKit Jvm.RoadKit Bundle Jvm.Pilot.@@N@@.Jvm.D

section OwnKit
variable {p : Program} {l : Launch} {e : Env} {R : Room} {s : State} {m : MethodId} {args : Array Value} {below : List Frame} {meth : Method} {c : Code} {T : State} {locs : List Loc} {cells slots : Nat} {Z : State} {a0 : Array Value} {h : Heap} {kc ks : Nat} {Q : Option Value → Heap → List Loc → Prop}
/-- the run from F comes to the method's end, where Q holds -/
def OWp (p : Program) (e : Env) (below : List Frame) (s : State) (kc ks : Nat) (Q : Option Value → Heap → List Loc → Prop) (F : State) : Prop :=
  ∃ s₂ o, Steps p.tables e below F s₂ ∧ s₂.status = .running ∧ Ended s₂ below o ∧ ∃ v L, o = .returned v ∧ Q v s₂.heap L ∧ FrameEnd s o s₂ L kc ks
theorem own_st {F F' : State} (h : ∀ t, Steps p.tables e below F' t → Steps p.tables e below F t) (w : OWp p e below s kc ks Q F') : OWp p e below s kc ks Q F := by
  obtain ⟨s₂, o, h1, r⟩ := w
  exact ⟨s₂, o, h _ h1, r⟩
theorem own_fin (X : Stand p l e R s m args below meth c T locs cells slots) {F : State} (v : Option Value) (hv : meth.sig.returnType = none → v = none) (hlocks : meth.locks = false) (hk : cells ≤ kc) (hn : slots ≤ ks)
    (hst : ∀ fs, (∀ (f : JFrame) (acts : List Action), f.method = m → f.locked = none → f.entered = [] → (doReturn e (T.setTop f) acts v).1 = T.setFrames fs) → Steps p.tables e below F (T.setFrames fs))
    (hq : Q v T.heap locs) : OWp p e below s kc ks Q F := by
  obtain ⟨fs, hr, hrun, hended, hW, hsame⟩ := X.leave (v := v) hv hlocks
  exact ⟨_, _, hst fs hr, hrun, hended, v, locs, rfl, hq, ⟨_, rfl⟩, hW, hsame.mono hk hn⟩
theorem own_irem_mod (x y : Int32) : x - (x / y) * y = x % y := by
  apply Int32.toInt_inj.mp
  rw [Int32.toInt_sub, Int32.toInt_mul, Int32.toInt_div, Int32.toInt_mod, Int.bmod_mul_bmod, Int.sub_bmod_bmod, Int.mul_comm, ← Int.tmod_def]
  have a := (x % y).toInt_lt; have b := (x % y).le_toInt
  rw [Int32.toInt_mod] at a b
  exact Int.bmod_eq_of_le (by omega) (by omega)
theorem own_irem {tb : Tables} [Ours tb] {e : Env} {below : List Frame} {T target : State} {m : MethodId} {c : Code} {g : JFrame} (h : At T m c below) (hx : tb.exec = Jvm.exec) (hg : g.method = m) {x y : Int32} {rest : List Value} (hd : decode c.code g.pc = .ok (.irem, 1)) (hs : g.stack = .int y :: .int x :: rest) (hy : y ≠ 0)
    (hr : Steps tb e below (T.setTop { g with pc := g.pc + 1, stack := .int (x % y) :: rest }) target) : Steps tb e below (T.setTop g) target :=
  XS.irem h hx hg hd hs hy (by rw [own_irem_mod]; exact hr)
theorem own_callS (X : Stand p l e R s m args below meth c T locs cells slots) (hx : p.tables.exec = Jvm.exec) (hZ : Z.Warmed39 s.vm) {own : String} {index : Nat} {y : MethodName} {bytes : ByteArray} {maxL : Nat} {ret : Option FieldType} {rm : Room} {Qc : Option Value → Heap → List Loc → Prop} {as' : Array Value}
    (hown : s.vm.findClass own = some m.cls) (wl : (Jvm.Cond.methodLink own index y).before a0 Z = true) (wst : (Jvm.Cond.static y).before a0 Z = true) (wz : (Jvm.Cond.initialized y.cls).before a0 Z = true) (wc : (Jvm.Cond.code y bytes maxL ret).before a0 Z = true)
    (hM : MetFree l y (head1 [Jvm.Cond.code y bytes maxL ret] rm) (fun a U => a = as' ∧ Z.Warmed39 U.vm ∧ U.heap = h) (fun _ _ _ _ _ => True) (fun _ U o U' => ∃ v L, o = .returned v ∧ Qc v U'.heap L ∧ FrameEnd U o U' L rm.cells rm.slots))
    (hy : y.cls ≠ "java/lang/invoke/MethodHandle" ∧ y.cls ≠ "java/lang/invoke/VarHandle") {W pc : Nat} {Ls : Array Slot} {stk argsL rest : List Value} (hf : rm.frames + 1 ≤ R.frames) (hl : W + (maxL + 11) + rm.locals ≤ R.locals)
    (hsize : Ls.size = c.maxLocals) (hlen : ∀ sig, parseMethodDescriptor y.desc = some sig → argsL.length = sig.parameters.length) (hstk : stk = argsL.reverse ++ rest) (has : argsL.toArray = as') (hW : 2 * 0 + (rest.map fun v => v.category).sum ≤ W)
    (hdg : decode c.code pc = .ok (.invokestatic index, 3)) (eT : T.heap = h) (hc : cells + rm.cells ≤ R.cells) (hs : slots + rm.slots ≤ R.slots)
    (k : ∀ v T' L, Qc v T'.heap L → Stand p l e R s m args below meth c T' (locs ++ L) (cells + rm.cells) (slots + rm.slots) → OWp p e below s kc ks Q (T'.setTop (mkF m (pc + 3) Ls (v.toList ++ rest)))) :
    OWp p e below s kc ks Q (T.setTop (mkF m pc Ls stk)) := by
  obtain ⟨v, _, ⟨T', L', k', n'⟩, -, X', ⟨Lc, hQ, l1, y1, z1⟩, st⟩ := Jvm.LawKit.callS X hx (y := y) hown (mvT hZ wl) (mvT hZ wst) (mvT hZ wz) (mvT hZ wc) hy (backOf (W := W) hM hZ wc wz hf hl) (g := mkF m pc Ls stk) rfl hsize (argsL := argsL) (rest := rest) hlen hstk hW hdg (fun _ _ => ⟨has, eT, hc, hs⟩)
  dsimp only [Pt.U, Pt.locs, Pt.cells, Pt.slots] at X' l1 y1 z1 st hQ
  subst l1 y1 z1
  exact own_st st (k v T' Lc hQ X')
theorem own_init (X : Stand p l e R s m args below meth c T locs cells slots) (hx : p.tables.exec = Jvm.exec) (hZ : Z.Warmed39 s.vm) {own : String} {index : Nat} {y : MethodName} {bytes : ByteArray} {maxL : Nat} {rm : Room} {Qc : Option Value → Heap → List Loc → Prop} {as' : Array Value}
    (hown : s.vm.findClass own = some m.cls) (hy1 : y.name = "<init>") (wl : (Jvm.Cond.methodLink own index y).before a0 Z = true) (wi : (Jvm.Cond.instanceMethod y).before a0 Z = true) (wz : (Jvm.Cond.initialized y.cls).before a0 Z = true) (wc : (Jvm.Cond.code y bytes maxL none).before a0 Z = true)
    (hM : MetFree l y (head1 [Jvm.Cond.code y bytes maxL none] rm) (fun a U => a = as' ∧ Z.Warmed39 U.vm ∧ U.heap = h) (fun _ _ _ _ _ => True) (fun _ U o U' => ∃ v L, o = .returned v ∧ Qc v U'.heap L ∧ FrameEnd U o U' L rm.cells rm.slots))
    (hy : y.cls ≠ "java/lang/invoke/MethodHandle" ∧ y.cls ≠ "java/lang/invoke/VarHandle") {W pc : Nat} {Ls : Array Slot} {stk argsL rest : List Value} {a : Addr} (hf : rm.frames + 1 ≤ R.frames) (hl : W + (maxL + 11) + rm.locals ≤ R.locals)
    (hsize : Ls.size = c.maxLocals) (hlen : ∀ sig, parseMethodDescriptor y.desc = some sig → argsL.length = sig.parameters.length) (hstk : stk = argsL.reverse ++ .ref a :: rest) (has : (.ref a :: argsL).toArray = as') (hW : 2 * 0 + (rest.map fun v => v.category).sum ≤ W)
    (hdg : decode c.code pc = .ok (.invokespecial index, 3)) (eT : T.heap = h) (hc : cells + rm.cells ≤ R.cells) (hs : slots + rm.slots ≤ R.slots)
    (k : ∀ v T' L, Qc v T'.heap L → Stand p l e R s m args below meth c T' (locs ++ L) (cells + rm.cells) (slots + rm.slots) → OWp p e below s kc ks Q (T'.setTop (mkF m (pc + 3) Ls (v.toList ++ rest)))) :
    OWp p e below s kc ks Q (T.setTop (mkF m pc Ls stk)) := by
  obtain ⟨v, _, ⟨T', L', k', n'⟩, -, X', ⟨Lc, hQ, l1, y1, z1⟩, st⟩ := X.specialBack hx (y := y) hy1 hown (mvT hZ wl) (mvT hZ wi) (mvT hZ wc) hy (backOf (W := W) hM hZ wc wz hf hl) (g := mkF m pc Ls stk) rfl hsize (Steps.refl _) (a := a) (argsL := argsL) (rest := rest) hlen hstk hW hdg (fun _ _ => ⟨has, eT, hc, hs⟩)
  dsimp only [Pt.U, Pt.locs, Pt.cells, Pt.slots] at X' l1 y1 z1 st hQ
  subst l1 y1 z1
  exact own_st (fun t q => st.trans q) (k v T' Lc hQ X')
theorem own_virt (X : Stand p l e R s m args below meth c T locs cells slots) (hx : p.tables.exec = Jvm.exec) (hZ : Z.Warmed39 s.vm) {own C : String} {index : Nat} {y : MethodName} {bytes : ByteArray} {maxL : Nat} {ret : Option FieldType} {rm : Room} {Qc : Option Value → Heap → List Loc → Prop} {as' : Array Value} {a : Addr}
    (hown : s.vm.findClass own = some m.cls) (wl : (Jvm.Cond.methodLink own index y).before a0 Z = true) (wd : (Jvm.Cond.declares y).before a0 Z = true) (wsel : (Jvm.Cond.selects C y y).before a0 Z = true) (wi : (Jvm.Cond.instanceMethod y).before a0 Z = true) (wz : (Jvm.Cond.initialized y.cls).before a0 Z = true) (wc : (Jvm.Cond.code y bytes maxL ret).before a0 Z = true)
    (E : Exa Z h a C)
    (hM : MetFree l y (head1 [Jvm.Cond.code y bytes maxL ret] rm) (fun a U => a = as' ∧ Z.Warmed39 U.vm ∧ U.heap = h) (fun _ _ _ _ _ => True) (fun _ U o U' => ∃ v L, o = .returned v ∧ Qc v U'.heap L ∧ FrameEnd U o U' L rm.cells rm.slots))
    (hy : y.cls ≠ "java/lang/invoke/MethodHandle" ∧ y.cls ≠ "java/lang/invoke/VarHandle") {W pc : Nat} {Ls : Array Slot} {stk argsL rest : List Value} (hf : rm.frames + 1 ≤ R.frames) (hl : W + (maxL + 11) + rm.locals ≤ R.locals)
    (hsize : Ls.size = c.maxLocals) (hlen : ∀ sig, parseMethodDescriptor y.desc = some sig → argsL.length = sig.parameters.length) (hstk : stk = argsL.reverse ++ .ref a :: rest) (has : (.ref a :: argsL).toArray = as') (hW : 2 * 0 + (rest.map fun v => v.category).sum ≤ W)
    (hdg : decode c.code pc = .ok (.invokevirtual index, 3)) (eT : T.heap = h) (hc : cells + rm.cells ≤ R.cells) (hs : slots + rm.slots ≤ R.slots)
    (k : ∀ v T' L, Qc v T'.heap L → Stand p l e R s m args below meth c T' (locs ++ L) (cells + rm.cells) (slots + rm.slots) → OWp p e below s kc ks Q (T'.setTop (mkF m (pc + 3) Ls (v.toList ++ rest)))) :
    OWp p e below s kc ks Q (T.setTop (mkF m pc Ls stk)) := by
  obtain ⟨cq, kq, qa, qb, qc⟩ := isOf hZ eT E
  obtain ⟨v, _, ⟨T', L', k', n'⟩, -, X', ⟨Lc, hQ, l1, y1, z1⟩, st⟩ := X.virtualBack hx (y := y) (z := y) hown (mvT hZ wl) (mvT hZ wd) (notFace_of_selects (args := #[]) (mvT hZ wsel)) (mvT hZ wsel) (mvT hZ wi) hy (backOf (W := W) hM hZ wc wz hf hl) qa qc (g := mkF m pc Ls stk) rfl hsize (Steps.refl _) (argsL := argsL) (rest := rest) hlen hstk hW hdg (fun _ _ => ⟨has, eT, hc, hs⟩)
  dsimp only [Pt.U, Pt.locs, Pt.cells, Pt.slots] at X' l1 y1 z1 st hQ
  subst l1 y1 z1
  exact own_st (fun t q => st.trans q) (k v T' Lc hQ X')
theorem own_len (X : Stand p l e R s m args below meth c T locs cells slots) (hx : p.tables.exec = Jvm.exec) (hZ : Z.Warmed39 s.vm) (eT : T.heap = h) {a : Addr} {k : ClassId} {ty : FieldType} {n : Int32} {vs : List Value} {dv : Value} (A : Arv Z h a k ty n vs dv)
    {pc : Nat} {Ls : Array Slot} {rest : List Value} (hd : decode c.code pc = .ok (.arraylength, 1)) :
    ∀ t, Steps p.tables e below (T.setTop (mkF m (pc + 1) Ls (.int n :: rest))) t → Steps p.tables e below (T.setTop (mkF m pc Ls (.ref a :: rest))) t := fun t q => by
  obtain ⟨cl, Ar, -, hS, hN, -, -⟩ := A
  refine X.arraylength hx (by rw [eT]; exact Ar.1) (State.isArrayOf_alike hZ.alike Ar.2.1) (g := mkF m pc Ls (.ref a :: rest)) rfl rfl hd _ ?_
  rw [len_of hS hN]; exact q
theorem own_ild (X : Stand p l e R s m args below meth c T locs cells slots) (hx : p.tables.exec = Jvm.exec) (hZ : Z.Warmed39 s.vm) (eT : T.heap = h) {a : Addr} {k : ClassId} {n : Int32} {vs : List Value} {dv : Value} (A : Arv Z h a k .int n vs dv)
    {pc : Nat} {Ls : Array Slot} {rest : List Value} {j w : Int32} (h0 : ¬ j < 0) (hlt : j < n) (hv : vs.getD j.toNatClampNeg dv = .int w) (hd : decode c.code pc = .ok (.iaload, 1)) :
    ∀ t, Steps p.tables e below (T.setTop (mkF m (pc + 1) Ls (.int w :: rest))) t → Steps p.tables e below (T.setTop (mkF m pc Ls (.int j :: .ref a :: rest))) t := fun t q => by
  obtain ⟨cl, Ar, -, hS, hN, H, -⟩ := A
  have hin := inb_of hS ⟨h0, hlt⟩
  exact X.iaload hx (j := j) (v := .int w) (by rw [eT]; exact Ar.1) (State.isArrayOf_alike hZ.alike Ar.2.1) Ar.2.2 hin (by rw [H _ (Nat.lt_of_not_le fun q => hin (Or.inr q)), hv]) (g := mkF m pc Ls (.int j :: .ref a :: rest)) rfl rfl hd _ q
theorem own_elt {a : Addr} {k : ClassId} {n : Int32} {vs : List Value} {dv : Value} (A : Arv Z h a k .int n vs dv) {j : Int32} (h0 : ¬ j < 0) (hlt : j < n) : ∃ w : Int32, vs.getD j.toNatClampNeg dv = .int w := by
  obtain ⟨cl, Ar, -, hS, hN, H, G⟩ := A
  have hin := inb_of hS ⟨h0, hlt⟩
  have g := G _ (Nat.lt_of_not_le fun q => hin (Or.inr q))
  cases hv : vs.getD j.toNatClampNeg dv <;> rw [hv] at g <;> first | exact ⟨_, rfl⟩ | cases g
theorem own_ist (X : Stand p l e R s m args below meth c T locs cells slots) (hx : p.tables.exec = Jvm.exec) (hZ : Z.Warmed39 s.vm) (eT : T.heap = h) {a : Addr} {k : ClassId} {n : Int32} {vs : List Value} {dv : Value} (A : Arv Z h a k .int n vs dv)
    {pc : Nat} {Ls : Array Slot} {rest : List Value} {j x : Int32} (i : Nat) (hj : j.toNatClampNeg = i) (h0 : ¬ j < 0) (hlt : j < n) (hi : i < vs.length) (hd : decode c.code pc = .ok (.iastore, 1)) :
    ∃ T' h', Stand p l e R s m args below meth c T' (locs ++ [⟨a, j.toNatClampNeg⟩]) cells slots ∧ T'.heap = h' ∧ Wr h h' a j.toNatClampNeg (.int x) ∧ Arv Z h' a k .int n (vs.set i (.int x)) dv ∧
      ∀ t, Steps p.tables e below (T'.setTop (mkF m (pc + 1) Ls rest)) t → Steps p.tables e below (T.setTop (mkF m pc Ls (.int x :: .int j :: .ref a :: rest))) t := by
  obtain ⟨cl, Ar, q1, hS, hN, H, G⟩ := A
  obtain ⟨T', h', X', e', W', st⟩ := stI X hx hZ eT Ar (j := j) (x := x) (inb_of hS ⟨h0, hlt⟩) (g := mkF m pc Ls (.int x :: .int j :: .ref a :: rest)) rfl rfl hd
  exact ⟨T', h', X', e', W', Arv.set Ar q1 hS hN H G rfl W' i hj hi, st⟩
theorem own_ald (X : Stand p l e R s m args below meth c T locs cells slots) (hx : p.tables.exec = Jvm.exec) (hZ : Z.Warmed39 s.vm) (eT : T.heap = h) {a : Addr} {k : ClassId} {C : String} {n : Int32} {vs : List Value} {dv : Value} (A : Arv Z h a k (.object C) n vs dv)
    {pc : Nat} {Ls : Array Slot} {rest : List Value} {j : Int32} {w : Addr} (h0 : ¬ j < 0) (hlt : j < n) (hv : vs.getD j.toNatClampNeg dv = .ref w) (hd : decode c.code pc = .ok (.aaload, 1)) :
    ∀ t, Steps p.tables e below (T.setTop (mkF m (pc + 1) Ls (.ref w :: rest))) t → Steps p.tables e below (T.setTop (mkF m pc Ls (.int j :: .ref a :: rest))) t := fun t q => by
  obtain ⟨cl, Ar, -, hS, hN, H, -⟩ := A
  have hin := inb_of hS ⟨h0, hlt⟩
  exact X.aaload hx (j := j) (v := .ref w) (by rw [eT]; exact Ar.1) (State.isArrayOf_alike hZ.alike Ar.2.1) rfl Ar.2.2 hin (by rw [H _ (Nat.lt_of_not_le fun q => hin (Or.inr q)), hv]) (g := mkF m pc Ls (.int j :: .ref a :: rest)) rfl rfl hd _ q
theorem own_ast (X : Stand p l e R s m args below meth c T locs cells slots) (hx : p.tables.exec = Jvm.exec) (hZ : Z.Warmed39 s.vm) (eT : T.heap = h) {a : Addr} {k : ClassId} {C : String} {n : Int32} {vs : List Value} {dv : Value} (A : Arv Z h a k (.object C) n vs dv) (O : Ovr Z k C) {y : Addr} (I : Ins Z h y C true)
    {pc : Nat} {Ls : Array Slot} {rest : List Value} {j : Int32} (i : Nat) (hj : j.toNatClampNeg = i) (h0 : ¬ j < 0) (hlt : j < n) (hi : i < vs.length) (hd : decode c.code pc = .ok (.aastore, 1)) :
    ∃ T' h', Stand p l e R s m args below meth c T' (locs ++ [⟨a, j.toNatClampNeg⟩]) cells slots ∧ T'.heap = h' ∧ Wr h h' a j.toNatClampNeg (.ref y) ∧ Arv Z h' a k (.object C) n (vs.set i (.ref y)) dv ∧
      ∀ t, Steps p.tables e below (T'.setTop (mkF m (pc + 1) Ls rest)) t → Steps p.tables e below (T.setTop (mkF m pc Ls (.ref y :: .int j :: .ref a :: rest))) t := by
  obtain ⟨cl, Ar, q1, hS, hN, H, G⟩ := A
  obtain ⟨T', h', X', e', W', st⟩ := stR X hx hZ eT Ar (j := j) (v := .ref y) (inb_of hS ⟨h0, hlt⟩) rfl (Sto.of Ar (q1 ▸ O) I) (g := mkF m pc Ls (.ref y :: .int j :: .ref a :: rest)) rfl rfl hd
  exact ⟨T', h', X', e', W', Arv.set Ar q1 hS hN H G rfl W' i hj hi, st⟩
theorem own_kext {h h' : Heap} (K : Keep h h' []) : Ext h h' := ⟨K.1, fun a c q => K.2.1 a c q (by simp)⟩
end OwnKit

abbrev OFit (u n : Int32) : Prop := ¬ u < 0 ∧ ¬ 7 < u ∧ (u = 0 ∨ 0 < n)
def oFit (u n : Int32) : Int32 := if OFit u n then 1 else 0
theorem own_alt (u n : Int32) : oFit u n = if ((u.toUInt32 >>> ((3 : Int32) &&& 31).toUInt32).toInt32) = (0 : Int32) ∧ (u = 0 ∨ ¬ n < 1) then 1 else 0 := by
  have h1 := c_iushr u 3 3 (by decide) (by decide)
  have h2 := rng32 u
  have e : OFit u n ↔ (((u.toUInt32 >>> ((3 : Int32) &&& 31).toUInt32).toInt32) = (0 : Int32) ∧ (u = 0 ∨ ¬ n < 1)) := by
    simp only [OFit, Int32.lt_iff_toInt_lt, ← Int32.toInt_inj, h1, Int32.reduceToInt]
    omega
  unfold oFit
  simp only [e]

theorem own_pd0 : parseMethodDescriptor "(II)Z" = some ⟨[.int, .int], some .boolean⟩ := by decide +kernel
theorem d1_0 : decode prog_15_method_22_code 0 = .ok (.iload_n 0, 1) := by decide +kernel
theorem d1_1 : decode prog_15_method_22_code 1 = .ok (.ifCond .lt 21, 3) := by decide +kernel
theorem d1_4 : decode prog_15_method_22_code 4 = .ok (.iload_n 0, 1) := by decide +kernel
theorem d1_5 : decode prog_15_method_22_code 5 = .ok (.bipush 7, 2) := by decide +kernel
theorem d1_7 : decode prog_15_method_22_code 7 = .ok (.if_icmp .gt 15, 3) := by decide +kernel
theorem d1_10 : decode prog_15_method_22_code 10 = .ok (.iload_n 0, 1) := by decide +kernel
theorem d1_11 : decode prog_15_method_22_code 11 = .ok (.ifCond .eq 7, 3) := by decide +kernel
theorem d1_14 : decode prog_15_method_22_code 14 = .ok (.iload_n 1, 1) := by decide +kernel
theorem d1_15 : decode prog_15_method_22_code 15 = .ok (.ifCond .le 7, 3) := by decide +kernel
theorem d1_18 : decode prog_15_method_22_code 18 = .ok (.iconst 1, 1) := by decide +kernel
theorem d1_19 : decode prog_15_method_22_code 19 = .ok (.goto 4, 3) := by decide +kernel
theorem d1_22 : decode prog_15_method_22_code 22 = .ok (.iconst 0, 1) := by decide +kernel
theorem d1_23 : decode prog_15_method_22_code 23 = .ok (.ireturn, 1) := by decide +kernel
def Q1 (p1 p2 : Int32) (h0 : Heap) (n0 : Nat) (v : Option Value) (h : Heap) (L : List Loc) : Prop := v = some (.int (oFit p1 p2)) ∧ Fr n0 L ∧ h = h0
theorem ef_1 (m : MethodId) (x0 : Int32) (x1 : Int32) : entryFrame m #[(.int x0), (.int x1)] 2 = mkF m 0 #[.val (.int x0), .val (.int x1)] [] := by first | (simp [entryFrame, mkF, argsToLocals, Value.category]; done) | rfl
theorem pn_1 : plainName "com/example/tagwright/tagwright/codec/Der" = true := by first | (simp [plainName, overriddenIn]; done) | decide +kernel
set_option maxRecDepth 65536 in
set_option maxHeartbeats 40000000 in
theorem rm1 (l : Launch) (Z : State) (a0 : Array Value) (hw : ∀ d ∈ tables_1, d.before a0 Z = true) (ws : List Jvm.Cond) (p1 p2 : Int32) (h0 : Heap) (n0 : Nat) (Z0 : n0 ≤ h0.size)  :
    MetFree l (⟨"com/example/tagwright/tagwright/codec/Der", "fitsUnusedBits", "(II)Z"⟩ : MethodName) (head1 (Jvm.Cond.code (⟨"com/example/tagwright/tagwright/codec/Der", "fitsUnusedBits", "(II)Z"⟩ : MethodName) prog_15_method_22_code 2 (some .boolean) :: ws) ({ frames := 0, cells := 0, slots := 0, locals := 0 } : Room)) (fun a U => a = #[(.int p1), (.int p2)] ∧ Z.Warmed39 U.vm ∧ U.heap = h0) (fun _ _ _ _ _ => True) (fun _ U o U' => ∃ v L, o = .returned v ∧ Q1 p1 p2 h0 n0 v U'.heap L ∧ FrameEnd U o U' L ({ frames := 0, cells := 0, slots := 0, locals := 0 } : Room).cells ({ frames := 0, cells := 0, slots := 0, locals := 0 } : Room).slots) := by
  refine MetFree.of_bodySF (plainFor_of_name pn_1) hisR ?_
  intro p e s m args below meth c s₁ Bd hml0 hP hK
  obtain ⟨rfl, hZ, hh⟩ := hP
  have hx := Bd.exec
  have hby := Bd.bytes
  have hml : c.maxLocals = 2 := hml0
  have hown : s.vm.findClass "com/example/tagwright/tagwright/codec/Der" = some m.cls := findClass_of_methodNamed Bd.named
  have hnm := (name_of_methodNamed Bd.named Bd.method).1
  have X0 : Stand p l e ({ frames := 0, cells := 0, slots := 0, locals := 0 } : Room) s m #[(.int p1), (.int p2)] below meth c s₁ [] 0 0 := Stand.of_body Bd
  have e0 : s₁.heap = h0 := by rw [← hh, Bd.state]; rfl
  have N0 := Fr.nil n0
  suffices hgoal : OWp p e below s ({ frames := 0, cells := 0, slots := 0, locals := 0 } : Room).cells ({ frames := 0, cells := 0, slots := 0, locals := 0 } : Room).slots (Q1 p1 p2 h0 n0) (s₁.setTop (mkF m 0 #[.val (.int p1), .val (.int p2)] [])) by
    rw [← ef_1] at hgoal; exact hgoal
  refine own_st (F' := s₁.setTop (mkF m 1 #[.val (.int p1), .val (.int p2)] [(.int p1)])) (fun t k => XS.iloadN X0.here hx rfl (hb hby d1_0) rfl k) ?_
  by_cases hc1 : p1 < (0 : Int32)
  · -- pc 1: p1 < (0 : Int32)
    refine own_st (F' := s₁.setTop (mkF m 22 #[.val (.int p1), .val (.int p2)] [])) (fun t k => XS.ifYes X0.here hx rfl (pc0 := 1) (pc' := 22) rfl (hb hby d1_1) rfl ((if0 _ _).trans (tlt hc1).1) (by decide) (by decide) k) ?_
    refine own_st (F' := s₁.setTop (mkF m 23 #[.val (.int p1), .val (.int p2)] [(.int (0 : Int32))])) (fun t k => XS.iconst X0.here hx rfl (hb hby d1_22) k) ?_
    refine own_fin X0 (some (.int (0 : Int32))) (fun h => by rw [Bd.returns] at h; cases h) Bd.notSynchronized (by decide) (by decide) (fun fs hr => retN X0 hx (t := .boolean) Bd.returns (by simp) (hb hby d1_23) hr) ?_
    rw [e0]
    exact ⟨by simp [oFit, OFit, hc1], N0, rfl⟩
  · -- pc 1: not p1 < (0 : Int32)
    refine own_st (F' := s₁.setTop (mkF m 4 #[.val (.int p1), .val (.int p2)] [])) (fun t k => XS.ifNo X0.here hx rfl (hb hby d1_1) rfl ((if0 _ _).trans (flt hc1).1) k) ?_
    refine own_st (F' := s₁.setTop (mkF m 5 #[.val (.int p1), .val (.int p2)] [(.int p1)])) (fun t k => XS.iloadN X0.here hx rfl (hb hby d1_4) rfl k) ?_
    refine own_st (F' := s₁.setTop (mkF m 7 #[.val (.int p1), .val (.int p2)] [(.int (7 : Int32)), (.int p1)])) (fun t k => XS.bipush X0.here hx rfl (hb hby d1_5) k) ?_
    by_cases hc2 : (7 : Int32) < p1
    · -- pc 7: (7 : Int32) < p1
      refine own_st (F' := s₁.setTop (mkF m 22 #[.val (.int p1), .val (.int p2)] [])) (fun t k => XS.icmpYes X0.here hx rfl (pc0 := 7) (pc' := 22) rfl (hb hby d1_7) rfl (tlt hc2).2.2.1 (by decide) (by decide) k) ?_
      refine own_st (F' := s₁.setTop (mkF m 23 #[.val (.int p1), .val (.int p2)] [(.int (0 : Int32))])) (fun t k => XS.iconst X0.here hx rfl (hb hby d1_22) k) ?_
      refine own_fin X0 (some (.int (0 : Int32))) (fun h => by rw [Bd.returns] at h; cases h) Bd.notSynchronized (by decide) (by decide) (fun fs hr => retN X0 hx (t := .boolean) Bd.returns (by simp) (hb hby d1_23) hr) ?_
      rw [e0]
      exact ⟨by simp [oFit, OFit, hc1, hc2], N0, rfl⟩
    · -- pc 7: not (7 : Int32) < p1
      refine own_st (F' := s₁.setTop (mkF m 10 #[.val (.int p1), .val (.int p2)] [])) (fun t k => XS.icmpNo X0.here hx rfl (hb hby d1_7) rfl (flt hc2).2.2.1 k) ?_
      refine own_st (F' := s₁.setTop (mkF m 11 #[.val (.int p1), .val (.int p2)] [(.int p1)])) (fun t k => XS.iloadN X0.here hx rfl (hb hby d1_10) rfl k) ?_
      by_cases hc3 : p1 = (0 : Int32)
      · -- pc 11: p1 = (0 : Int32)
        refine own_st (F' := s₁.setTop (mkF m 18 #[.val (.int p1), .val (.int p2)] [])) (fun t k => XS.ifYes X0.here hx rfl (pc0 := 11) (pc' := 18) rfl (hb hby d1_11) rfl ((if0 _ _).trans (teq hc3).1) (by decide) (by decide) k) ?_
        refine own_st (F' := s₁.setTop (mkF m 19 #[.val (.int p1), .val (.int p2)] [(.int (1 : Int32))])) (fun t k => XS.iconst X0.here hx rfl (hb hby d1_18) k) ?_
        refine own_st (F' := s₁.setTop (mkF m 23 #[.val (.int p1), .val (.int p2)] [(.int (1 : Int32))])) (fun t k => XS.goto X0.here hx rfl (pc0 := 19) (pc' := 23) rfl (hb hby d1_19) (by decide) (by decide) k) ?_
        refine own_fin X0 (some (.int (1 : Int32))) (fun h => by rw [Bd.returns] at h; cases h) Bd.notSynchronized (by decide) (by decide) (fun fs hr => retN X0 hx (t := .boolean) Bd.returns (by simp) (hb hby d1_23) hr) ?_
        rw [e0]
        exact ⟨by simp [oFit, OFit, hc1, hc2, hc3], N0, rfl⟩
      · -- pc 11: not p1 = (0 : Int32)
        refine own_st (F' := s₁.setTop (mkF m 14 #[.val (.int p1), .val (.int p2)] [])) (fun t k => XS.ifNo X0.here hx rfl (hb hby d1_11) rfl ((if0 _ _).trans (feq hc3).1) k) ?_
        refine own_st (F' := s₁.setTop (mkF m 15 #[.val (.int p1), .val (.int p2)] [(.int p2)])) (fun t k => XS.iloadN X0.here hx rfl (hb hby d1_14) rfl k) ?_
        by_cases hc4 : (0 : Int32) < p2
        · -- pc 15: (0 : Int32) < p2
          refine own_st (F' := s₁.setTop (mkF m 18 #[.val (.int p1), .val (.int p2)] [])) (fun t k => XS.ifNo X0.here hx rfl (hb hby d1_15) rfl ((if0 _ _).trans (tlt hc4).2.2.2) k) ?_
          refine own_st (F' := s₁.setTop (mkF m 19 #[.val (.int p1), .val (.int p2)] [(.int (1 : Int32))])) (fun t k => XS.iconst X0.here hx rfl (hb hby d1_18) k) ?_
          refine own_st (F' := s₁.setTop (mkF m 23 #[.val (.int p1), .val (.int p2)] [(.int (1 : Int32))])) (fun t k => XS.goto X0.here hx rfl (pc0 := 19) (pc' := 23) rfl (hb hby d1_19) (by decide) (by decide) k) ?_
          refine own_fin X0 (some (.int (1 : Int32))) (fun h => by rw [Bd.returns] at h; cases h) Bd.notSynchronized (by decide) (by decide) (fun fs hr => retN X0 hx (t := .boolean) Bd.returns (by simp) (hb hby d1_23) hr) ?_
          rw [e0]
          exact ⟨by simp [oFit, OFit, hc1, hc2, hc3, hc4], N0, rfl⟩
        · -- pc 15: not (0 : Int32) < p2
          refine own_st (F' := s₁.setTop (mkF m 22 #[.val (.int p1), .val (.int p2)] [])) (fun t k => XS.ifYes X0.here hx rfl (pc0 := 15) (pc' := 22) rfl (hb hby d1_15) rfl ((if0 _ _).trans (flt hc4).2.2.2) (by decide) (by decide) k) ?_
          refine own_st (F' := s₁.setTop (mkF m 23 #[.val (.int p1), .val (.int p2)] [(.int (0 : Int32))])) (fun t k => XS.iconst X0.here hx rfl (hb hby d1_22) k) ?_
          refine own_fin X0 (some (.int (0 : Int32))) (fun h => by rw [Bd.returns] at h; cases h) Bd.notSynchronized (by decide) (by decide) (fun fs hr => retN X0 hx (t := .boolean) Bd.returns (by simp) (hb hby d1_23) hr) ?_
          rw [e0]
          exact ⟨by simp [oFit, OFit, hc1, hc2, hc3, hc4], N0, rfl⟩
def Q0 (p1 p2 p3 : Int32) (h0 : Heap) (n0 : Nat) (v : Option Value) (h : Heap) (L : List Loc) : Prop := v = some (.int 1) ∧ Fr n0 L
theorem ef_0 (m : MethodId) (x0 : Int32) (x1 : Int32) (x2 : Int32) : entryFrame m #[(.int x0), (.int x1), (.int x2)] maxLocals = mkF m 0 #[.val (.int x0), .val (.int x1), .val (.int x2), .unset, .unset, .unset, .unset] [] := by first | (simp [entryFrame, mkF, argsToLocals, Value.category, maxLocals]; done) | rfl
theorem pn_0 : plainName "com/example/tagwright/tagwright/codec/DerFitsUnusedBitsPinLaw" = true := by first | (simp [plainName, overriddenIn]; done) | decide +kernel
set_option maxRecDepth 65536 in
set_option maxHeartbeats 40000000 in
theorem rm0 (l : Launch) (Z : State) (a0 : Array Value) (hw : ∀ d ∈ tables_1, d.before a0 Z = true) (ws : List Jvm.Cond) (p1 p2 p3 : Int32) (h0 : Heap) (n0 : Nat) (Z0 : n0 ≤ h0.size)  :
    MetFree l x (head1 (Jvm.Cond.code x code maxLocals ret :: ws) room_1) (fun a U => a = #[(.int p1), (.int p2), (.int p3)] ∧ Z.Warmed39 U.vm ∧ U.heap = h0) (fun _ _ _ _ _ => True) (fun _ U o U' => ∃ v L, o = .returned v ∧ Q0 p1 p2 p3 h0 n0 v U'.heap L ∧ FrameEnd U o U' L room_1.cells room_1.slots) := by
  refine MetFree.of_bodySF (plainFor_of_name pn_0) hisR ?_
  intro p e s m args below meth c s₁ Bd hml0 hP hK
  obtain ⟨rfl, hZ, hh⟩ := hP
  have hx := Bd.exec
  have hby := Bd.bytes
  have hml : c.maxLocals = 7 := hml0
  have hown : s.vm.findClass "com/example/tagwright/tagwright/codec/DerFitsUnusedBitsPinLaw" = some m.cls := findClass_of_methodNamed Bd.named
  have hnm := (name_of_methodNamed Bd.named Bd.method).1
  have X0 : Stand p l e room_1 s m #[(.int p1), (.int p2), (.int p3)] below meth c s₁ [] 0 0 := Stand.of_body Bd
  have e0 : s₁.heap = h0 := by rw [← hh, Bd.state]; rfl
  have N0 := Fr.nil n0
  suffices hgoal : OWp p e below s room_1.cells room_1.slots (Q0 p1 p2 p3 h0 n0) (s₁.setTop (mkF m 0 #[.val (.int p1), .val (.int p2), .val (.int p3), .unset, .unset, .unset, .unset] [])) by
    rw [← ef_0] at hgoal; exact hgoal
  refine own_st (F' := s₁.setTop (mkF m 1 #[.val (.int p1), .val (.int p2), .val (.int p3), .unset, .unset, .unset, .unset] [(.int p3)])) (fun t k => XS.iloadN X0.here hx rfl (hb hby at_0) rfl k) ?_
  refine own_st (F' := s₁.setTop (mkF m 2 #[.val (.int p1), .val (.int p2), .val (.int p3), .unset, .unset, .unset, .unset] [(.int (1 : Int32)), (.int p3)])) (fun t k => XS.iconst X0.here hx rfl (hb hby at_1) k) ?_
  refine own_st (F' := s₁.setTop (mkF m 3 #[.val (.int p1), .val (.int p2), .val (.int p3), .unset, .unset, .unset, .unset] [(.int (p3 &&& (1 : Int32)))])) (fun t k => XS.iand X0.here hx rfl (hb hby at_2) rfl k) ?_
  by_cases hc1 : (p3 &&& (1 : Int32)) = (0 : Int32)
  · -- pc 3: (p3 &&& (1 : Int32)) = (0 : Int32)
    refine own_st (F' := s₁.setTop (mkF m 13 #[.val (.int p1), .val (.int p2), .val (.int p3), .unset, .unset, .unset, .unset] [])) (fun t k => XS.ifYes X0.here hx rfl (pc0 := 3) (pc' := 13) rfl (hb hby at_3) rfl ((if0 _ _).trans (teq hc1).1) (by decide) (by decide) k) ?_
    refine own_st (F' := s₁.setTop (mkF m 14 #[.val (.int p1), .val (.int p2), .val (.int p3), .unset, .unset, .unset, .unset] [(.int p1)])) (fun t k => XS.iloadN X0.here hx rfl (hb hby at_13) rfl k) ?_
    refine own_st (F' := s₁.setTop (mkF m 15 #[.val (.int p1), .val (.int p2), .val (.int p3), .val (.int p1), .unset, .unset, .unset] [])) (fun t k => XS.istoreN X0.here hx rfl (hb hby at_14) rfl (l' := #[.val (.int p1), .val (.int p2), .val (.int p3), .val (.int p1), .unset, .unset, .unset]) rfl k) ?_
    refine own_st (F' := s₁.setTop (mkF m 16 #[.val (.int p1), .val (.int p2), .val (.int p3), .val (.int p1), .unset, .unset, .unset] [(.int p3)])) (fun t k => XS.iloadN X0.here hx rfl (hb hby at_15) rfl k) ?_
    refine own_st (F' := s₁.setTop (mkF m 17 #[.val (.int p1), .val (.int p2), .val (.int p3), .val (.int p1), .unset, .unset, .unset] [(.int (2 : Int32)), (.int p3)])) (fun t k => XS.iconst X0.here hx rfl (hb hby at_16) k) ?_
    refine own_st (F' := s₁.setTop (mkF m 18 #[.val (.int p1), .val (.int p2), .val (.int p3), .val (.int p1), .unset, .unset, .unset] [(.int (p3 &&& (2 : Int32)))])) (fun t k => XS.iand X0.here hx rfl (hb hby at_17) rfl k) ?_
    by_cases hc2 : (p3 &&& (2 : Int32)) = (0 : Int32)
    · -- pc 18: (p3 &&& (2 : Int32)) = (0 : Int32)
      refine own_st (F' := s₁.setTop (mkF m 27 #[.val (.int p1), .val (.int p2), .val (.int p3), .val (.int p1), .unset, .unset, .unset] [])) (fun t k => XS.ifYes X0.here hx rfl (pc0 := 18) (pc' := 27) rfl (hb hby at_18) rfl ((if0 _ _).trans (teq hc2).1) (by decide) (by decide) k) ?_
      refine own_st (F' := s₁.setTop (mkF m 28 #[.val (.int p1), .val (.int p2), .val (.int p3), .val (.int p1), .unset, .unset, .unset] [(.int p2)])) (fun t k => XS.iloadN X0.here hx rfl (hb hby at_27) rfl k) ?_
      refine own_st (F' := s₁.setTop (mkF m 30 #[.val (.int p1), .val (.int p2), .val (.int p3), .val (.int p1), .val (.int p2), .unset, .unset] [])) (fun t k => XS.istore X0.here hx rfl (hb hby at_28) rfl (l' := #[.val (.int p1), .val (.int p2), .val (.int p3), .val (.int p1), .val (.int p2), .unset, .unset]) rfl k) ?_
      refine own_st (F' := s₁.setTop (mkF m 31 #[.val (.int p1), .val (.int p2), .val (.int p3), .val (.int p1), .val (.int p2), .unset, .unset] [(.int p1)])) (fun t k => XS.iloadN X0.here hx rfl (hb hby at_30) rfl k) ?_
      refine own_st (F' := s₁.setTop (mkF m 32 #[.val (.int p1), .val (.int p2), .val (.int p3), .val (.int p1), .val (.int p2), .unset, .unset] [(.int (3 : Int32)), (.int p1)])) (fun t k => XS.iconst X0.here hx rfl (hb hby at_31) k) ?_
      refine own_st (F' := s₁.setTop (mkF m 33 #[.val (.int p1), .val (.int p2), .val (.int p3), .val (.int p1), .val (.int p2), .unset, .unset] [(.int ((p1.toUInt32 >>> ((3 : Int32) &&& 31).toUInt32).toInt32))])) (fun t k => XS.iushr X0.here hx rfl (hb hby at_32) rfl k) ?_
      by_cases hc3 : ((p1.toUInt32 >>> ((3 : Int32) &&& 31).toUInt32).toInt32) = (0 : Int32)
      · -- pc 33: ((p1.toUInt32 >>> ((3 : Int32) &&& 31).toUInt32).toInt32) = (0 : Int32)
        refine own_st (F' := s₁.setTop (mkF m 36 #[.val (.int p1), .val (.int p2), .val (.int p3), .val (.int p1), .val (.int p2), .unset, .unset] [])) (fun t k => XS.ifNo X0.here hx rfl (hb hby at_33) rfl ((if0 _ _).trans (teq hc3).2) k) ?_
        refine own_st (F' := s₁.setTop (mkF m 37 #[.val (.int p1), .val (.int p2), .val (.int p3), .val (.int p1), .val (.int p2), .unset, .unset] [(.int (1 : Int32))])) (fun t k => XS.iconst X0.here hx rfl (hb hby at_36) k) ?_
        refine own_st (F' := s₁.setTop (mkF m 41 #[.val (.int p1), .val (.int p2), .val (.int p3), .val (.int p1), .val (.int p2), .unset, .unset] [(.int (1 : Int32))])) (fun t k => XS.goto X0.here hx rfl (pc0 := 37) (pc' := 41) rfl (hb hby at_37) (by decide) (by decide) k) ?_
        refine own_st (F' := s₁.setTop (mkF m 43 #[.val (.int p1), .val (.int p2), .val (.int p3), .val (.int p1), .val (.int p2), .val (.int (1 : Int32)), .unset] [])) (fun t k => XS.istore X0.here hx rfl (hb hby at_41) rfl (l' := #[.val (.int p1), .val (.int p2), .val (.int p3), .val (.int p1), .val (.int p2), .val (.int (1 : Int32)), .unset]) rfl k) ?_
        refine own_st (F' := s₁.setTop (mkF m 45 #[.val (.int p1), .val (.int p2), .val (.int p3), .val (.int p1), .val (.int p2), .val (.int (1 : Int32)), .unset] [(.int (1 : Int32))])) (fun t k => XS.iload X0.here hx rfl (hb hby at_43) rfl k) ?_
        refine own_st (F' := s₁.setTop (mkF m 48 #[.val (.int p1), .val (.int p2), .val (.int p3), .val (.int p1), .val (.int p2), .val (.int (1 : Int32)), .unset] [])) (fun t k => XS.ifNo X0.here hx rfl (hb hby at_45) rfl ((if0 _ _).trans (feq (by decide : ¬ ((1 : Int32) = (0 : Int32)))).1) k) ?_
        refine own_st (F' := s₁.setTop (mkF m 49 #[.val (.int p1), .val (.int p2), .val (.int p3), .val (.int p1), .val (.int p2), .val (.int (1 : Int32)), .unset] [(.int p1)])) (fun t k => XS.iloadN X0.here hx rfl (hb hby at_48) rfl k) ?_
        by_cases hc4 : p1 = (0 : Int32)
        · -- pc 49: p1 = (0 : Int32)
          refine own_st (F' := s₁.setTop (mkF m 58 #[.val (.int p1), .val (.int p2), .val (.int p3), .val (.int p1), .val (.int p2), .val (.int (1 : Int32)), .unset] [])) (fun t k => XS.ifYes X0.here hx rfl (pc0 := 49) (pc' := 58) rfl (hb hby at_49) rfl ((if0 _ _).trans (teq hc4).1) (by decide) (by decide) k) ?_
          refine own_st (F' := s₁.setTop (mkF m 59 #[.val (.int p1), .val (.int p2), .val (.int p3), .val (.int p1), .val (.int p2), .val (.int (1 : Int32)), .unset] [(.int (1 : Int32))])) (fun t k => XS.iconst X0.here hx rfl (hb hby at_58) k) ?_
          refine own_st (F' := s₁.setTop (mkF m 63 #[.val (.int p1), .val (.int p2), .val (.int p3), .val (.int p1), .val (.int p2), .val (.int (1 : Int32)), .unset] [(.int (1 : Int32))])) (fun t k => XS.goto X0.here hx rfl (pc0 := 59) (pc' := 63) rfl (hb hby at_59) (by decide) (by decide) k) ?_
          refine own_st (F' := s₁.setTop (mkF m 65 #[.val (.int p1), .val (.int p2), .val (.int p3), .val (.int p1), .val (.int p2), .val (.int (1 : Int32)), .val (.int (1 : Int32))] [])) (fun t k => XS.istore X0.here hx rfl (hb hby at_63) rfl (l' := #[.val (.int p1), .val (.int p2), .val (.int p3), .val (.int p1), .val (.int p2), .val (.int (1 : Int32)), .val (.int (1 : Int32))]) rfl k) ?_
          refine own_st (F' := s₁.setTop (mkF m 66 #[.val (.int p1), .val (.int p2), .val (.int p3), .val (.int p1), .val (.int p2), .val (.int (1 : Int32)), .val (.int (1 : Int32))] [(.int p1)])) (fun t k => XS.iloadN X0.here hx rfl (hb hby at_65) rfl k) ?_
          refine own_st (F' := s₁.setTop (mkF m 68 #[.val (.int p1), .val (.int p2), .val (.int p3), .val (.int p1), .val (.int p2), .val (.int (1 : Int32)), .val (.int (1 : Int32))] [(.int p2), (.int p1)])) (fun t k => XS.iload X0.here hx rfl (hb hby at_66) rfl k) ?_
          refine own_callS X0 hx hZ (y := (⟨"com/example/tagwright/tagwright/codec/Der", "fitsUnusedBits", "(II)Z"⟩ : MethodName)) hown (hw _ (List.mem_of_getElem? (i := 0) rfl)) (hw _ (List.mem_of_getElem? (i := 1) rfl)) (hw _ (List.mem_of_getElem? (i := 2) rfl)) (hw _ (List.mem_of_getElem? (i := 3) rfl)) (rm1 l Z a0 hw [] p1 p2 h0 n0 Z0) (by decide) (W := 0) (argsL := [(.int p1), (.int p2)]) (rest := []) (by decide) (by decide) (by rw [hml]; rfl) (lenOf own_pd0 rfl) rfl rfl (Nat.le_of_eq rfl) (hb hby at_68) e0 (by decide) (by decide) ?_
          intro v5 T5 L5 hQ5 X5
          obtain ⟨rfl, N5q, e5⟩ := hQ5
          have N5 := Fr.app N0 N5q
          show OWp p e below s _ _ _ (T5.setTop (mkF m 71 #[.val (.int p1), .val (.int p2), .val (.int p3), .val (.int p1), .val (.int p2), .val (.int (1 : Int32)), .val (.int (1 : Int32))] [(.int (oFit p1 p2))]))
          refine own_st (F' := T5.setTop (mkF m 73 #[.val (.int p1), .val (.int p2), .val (.int p3), .val (.int p1), .val (.int p2), .val (.int (1 : Int32)), .val (.int (1 : Int32))] [(.int (1 : Int32)), (.int (oFit p1 p2))])) (fun t k => XS.iload X5.here hx rfl (hb hby at_71) rfl k) ?_
          refine own_st (F' := T5.setTop (mkF m 76 #[.val (.int p1), .val (.int p2), .val (.int p3), .val (.int p1), .val (.int p2), .val (.int (1 : Int32)), .val (.int (1 : Int32))] [])) (fun t k => XS.icmpNo X5.here hx rfl (hb hby at_73) rfl (teq (by rw [own_alt, if_pos ⟨hc3, Or.inl hc4⟩] : (oFit p1 p2) = (1 : Int32))).2 k) ?_
          refine own_st (F' := T5.setTop (mkF m 77 #[.val (.int p1), .val (.int p2), .val (.int p3), .val (.int p1), .val (.int p2), .val (.int (1 : Int32)), .val (.int (1 : Int32))] [(.int (1 : Int32))])) (fun t k => XS.iconst X5.here hx rfl (hb hby at_76) k) ?_
          refine own_st (F' := T5.setTop (mkF m 81 #[.val (.int p1), .val (.int p2), .val (.int p3), .val (.int p1), .val (.int p2), .val (.int (1 : Int32)), .val (.int (1 : Int32))] [(.int (1 : Int32))])) (fun t k => XS.goto X5.here hx rfl (pc0 := 77) (pc' := 81) rfl (hb hby at_77) (by decide) (by decide) k) ?_
          refine own_fin X5 (some (.int (1 : Int32))) (fun h => by rw [Bd.returns] at h; cases h) Bd.notSynchronized (by decide) (by decide) (fun fs hr => retN X5 hx (t := .boolean) Bd.returns (by simp) (hb hby at_81) hr) ?_
          rw [e5]
          exact ⟨rfl, N5⟩
        · -- pc 49: not p1 = (0 : Int32)
          refine own_st (F' := s₁.setTop (mkF m 52 #[.val (.int p1), .val (.int p2), .val (.int p3), .val (.int p1), .val (.int p2), .val (.int (1 : Int32)), .unset] [])) (fun t k => XS.ifNo X0.here hx rfl (hb hby at_49) rfl ((if0 _ _).trans (feq hc4).1) k) ?_
          refine own_st (F' := s₁.setTop (mkF m 54 #[.val (.int p1), .val (.int p2), .val (.int p3), .val (.int p1), .val (.int p2), .val (.int (1 : Int32)), .unset] [(.int p2)])) (fun t k => XS.iload X0.here hx rfl (hb hby at_52) rfl k) ?_
          refine own_st (F' := s₁.setTop (mkF m 55 #[.val (.int p1), .val (.int p2), .val (.int p3), .val (.int p1), .val (.int p2), .val (.int (1 : Int32)), .unset] [(.int (1 : Int32)), (.int p2)])) (fun t k => XS.iconst X0.here hx rfl (hb hby at_54) k) ?_
          by_cases hc6 : p2 < (1 : Int32)
          · -- pc 55: p2 < (1 : Int32)
            refine own_st (F' := s₁.setTop (mkF m 62 #[.val (.int p1), .val (.int p2), .val (.int p3), .val (.int p1), .val (.int p2), .val (.int (1 : Int32)), .unset] [])) (fun t k => XS.icmpYes X0.here hx rfl (pc0 := 55) (pc' := 62) rfl (hb hby at_55) rfl (tlt hc6).1 (by decide) (by decide) k) ?_
            refine own_st (F' := s₁.setTop (mkF m 63 #[.val (.int p1), .val (.int p2), .val (.int p3), .val (.int p1), .val (.int p2), .val (.int (1 : Int32)), .unset] [(.int (0 : Int32))])) (fun t k => XS.iconst X0.here hx rfl (hb hby at_62) k) ?_
            refine own_st (F' := s₁.setTop (mkF m 65 #[.val (.int p1), .val (.int p2), .val (.int p3), .val (.int p1), .val (.int p2), .val (.int (1 : Int32)), .val (.int (0 : Int32))] [])) (fun t k => XS.istore X0.here hx rfl (hb hby at_63) rfl (l' := #[.val (.int p1), .val (.int p2), .val (.int p3), .val (.int p1), .val (.int p2), .val (.int (1 : Int32)), .val (.int (0 : Int32))]) rfl k) ?_
            refine own_st (F' := s₁.setTop (mkF m 66 #[.val (.int p1), .val (.int p2), .val (.int p3), .val (.int p1), .val (.int p2), .val (.int (1 : Int32)), .val (.int (0 : Int32))] [(.int p1)])) (fun t k => XS.iloadN X0.here hx rfl (hb hby at_65) rfl k) ?_
            refine own_st (F' := s₁.setTop (mkF m 68 #[.val (.int p1), .val (.int p2), .val (.int p3), .val (.int p1), .val (.int p2), .val (.int (1 : Int32)), .val (.int (0 : Int32))] [(.int p2), (.int p1)])) (fun t k => XS.iload X0.here hx rfl (hb hby at_66) rfl k) ?_
            refine own_callS X0 hx hZ (y := (⟨"com/example/tagwright/tagwright/codec/Der", "fitsUnusedBits", "(II)Z"⟩ : MethodName)) hown (hw _ (List.mem_of_getElem? (i := 0) rfl)) (hw _ (List.mem_of_getElem? (i := 1) rfl)) (hw _ (List.mem_of_getElem? (i := 2) rfl)) (hw _ (List.mem_of_getElem? (i := 3) rfl)) (rm1 l Z a0 hw [] p1 p2 h0 n0 Z0) (by decide) (W := 0) (argsL := [(.int p1), (.int p2)]) (rest := []) (by decide) (by decide) (by rw [hml]; rfl) (lenOf own_pd0 rfl) rfl rfl (Nat.le_of_eq rfl) (hb hby at_68) e0 (by decide) (by decide) ?_
            intro v7 T7 L7 hQ7 X7
            obtain ⟨rfl, N7q, e7⟩ := hQ7
            have N7 := Fr.app N0 N7q
            show OWp p e below s _ _ _ (T7.setTop (mkF m 71 #[.val (.int p1), .val (.int p2), .val (.int p3), .val (.int p1), .val (.int p2), .val (.int (1 : Int32)), .val (.int (0 : Int32))] [(.int (oFit p1 p2))]))
            refine own_st (F' := T7.setTop (mkF m 73 #[.val (.int p1), .val (.int p2), .val (.int p3), .val (.int p1), .val (.int p2), .val (.int (1 : Int32)), .val (.int (0 : Int32))] [(.int (0 : Int32)), (.int (oFit p1 p2))])) (fun t k => XS.iload X7.here hx rfl (hb hby at_71) rfl k) ?_
            refine own_st (F' := T7.setTop (mkF m 76 #[.val (.int p1), .val (.int p2), .val (.int p3), .val (.int p1), .val (.int p2), .val (.int (1 : Int32)), .val (.int (0 : Int32))] [])) (fun t k => XS.icmpNo X7.here hx rfl (hb hby at_73) rfl (teq (by rw [own_alt, if_neg (fun z => z.2.elim hc4 (fun q => q hc6))] : (oFit p1 p2) = (0 : Int32))).2 k) ?_
            refine own_st (F' := T7.setTop (mkF m 77 #[.val (.int p1), .val (.int p2), .val (.int p3), .val (.int p1), .val (.int p2), .val (.int (1 : Int32)), .val (.int (0 : Int32))] [(.int (1 : Int32))])) (fun t k => XS.iconst X7.here hx rfl (hb hby at_76) k) ?_
            refine own_st (F' := T7.setTop (mkF m 81 #[.val (.int p1), .val (.int p2), .val (.int p3), .val (.int p1), .val (.int p2), .val (.int (1 : Int32)), .val (.int (0 : Int32))] [(.int (1 : Int32))])) (fun t k => XS.goto X7.here hx rfl (pc0 := 77) (pc' := 81) rfl (hb hby at_77) (by decide) (by decide) k) ?_
            refine own_fin X7 (some (.int (1 : Int32))) (fun h => by rw [Bd.returns] at h; cases h) Bd.notSynchronized (by decide) (by decide) (fun fs hr => retN X7 hx (t := .boolean) Bd.returns (by simp) (hb hby at_81) hr) ?_
            rw [e7]
            exact ⟨rfl, N7⟩
          · -- pc 55: not p2 < (1 : Int32)
            refine own_st (F' := s₁.setTop (mkF m 58 #[.val (.int p1), .val (.int p2), .val (.int p3), .val (.int p1), .val (.int p2), .val (.int (1 : Int32)), .unset] [])) (fun t k => XS.icmpNo X0.here hx rfl (hb hby at_55) rfl (flt hc6).1 k) ?_
            refine own_st (F' := s₁.setTop (mkF m 59 #[.val (.int p1), .val (.int p2), .val (.int p3), .val (.int p1), .val (.int p2), .val (.int (1 : Int32)), .unset] [(.int (1 : Int32))])) (fun t k => XS.iconst X0.here hx rfl (hb hby at_58) k) ?_
            refine own_st (F' := s₁.setTop (mkF m 63 #[.val (.int p1), .val (.int p2), .val (.int p3), .val (.int p1), .val (.int p2), .val (.int (1 : Int32)), .unset] [(.int (1 : Int32))])) (fun t k => XS.goto X0.here hx rfl (pc0 := 59) (pc' := 63) rfl (hb hby at_59) (by decide) (by decide) k) ?_
            refine own_st (F' := s₁.setTop (mkF m 65 #[.val (.int p1), .val (.int p2), .val (.int p3), .val (.int p1), .val (.int p2), .val (.int (1 : Int32)), .val (.int (1 : Int32))] [])) (fun t k => XS.istore X0.here hx rfl (hb hby at_63) rfl (l' := #[.val (.int p1), .val (.int p2), .val (.int p3), .val (.int p1), .val (.int p2), .val (.int (1 : Int32)), .val (.int (1 : Int32))]) rfl k) ?_
            refine own_st (F' := s₁.setTop (mkF m 66 #[.val (.int p1), .val (.int p2), .val (.int p3), .val (.int p1), .val (.int p2), .val (.int (1 : Int32)), .val (.int (1 : Int32))] [(.int p1)])) (fun t k => XS.iloadN X0.here hx rfl (hb hby at_65) rfl k) ?_
            refine own_st (F' := s₁.setTop (mkF m 68 #[.val (.int p1), .val (.int p2), .val (.int p3), .val (.int p1), .val (.int p2), .val (.int (1 : Int32)), .val (.int (1 : Int32))] [(.int p2), (.int p1)])) (fun t k => XS.iload X0.here hx rfl (hb hby at_66) rfl k) ?_
            refine own_callS X0 hx hZ (y := (⟨"com/example/tagwright/tagwright/codec/Der", "fitsUnusedBits", "(II)Z"⟩ : MethodName)) hown (hw _ (List.mem_of_getElem? (i := 0) rfl)) (hw _ (List.mem_of_getElem? (i := 1) rfl)) (hw _ (List.mem_of_getElem? (i := 2) rfl)) (hw _ (List.mem_of_getElem? (i := 3) rfl)) (rm1 l Z a0 hw [] p1 p2 h0 n0 Z0) (by decide) (W := 0) (argsL := [(.int p1), (.int p2)]) (rest := []) (by decide) (by decide) (by rw [hml]; rfl) (lenOf own_pd0 rfl) rfl rfl (Nat.le_of_eq rfl) (hb hby at_68) e0 (by decide) (by decide) ?_
            intro v8 T8 L8 hQ8 X8
            obtain ⟨rfl, N8q, e8⟩ := hQ8
            have N8 := Fr.app N0 N8q
            show OWp p e below s _ _ _ (T8.setTop (mkF m 71 #[.val (.int p1), .val (.int p2), .val (.int p3), .val (.int p1), .val (.int p2), .val (.int (1 : Int32)), .val (.int (1 : Int32))] [(.int (oFit p1 p2))]))
            refine own_st (F' := T8.setTop (mkF m 73 #[.val (.int p1), .val (.int p2), .val (.int p3), .val (.int p1), .val (.int p2), .val (.int (1 : Int32)), .val (.int (1 : Int32))] [(.int (1 : Int32)), (.int (oFit p1 p2))])) (fun t k => XS.iload X8.here hx rfl (hb hby at_71) rfl k) ?_
            refine own_st (F' := T8.setTop (mkF m 76 #[.val (.int p1), .val (.int p2), .val (.int p3), .val (.int p1), .val (.int p2), .val (.int (1 : Int32)), .val (.int (1 : Int32))] [])) (fun t k => XS.icmpNo X8.here hx rfl (hb hby at_73) rfl (teq (by rw [own_alt, if_pos ⟨hc3, Or.inr hc6⟩] : (oFit p1 p2) = (1 : Int32))).2 k) ?_
            refine own_st (F' := T8.setTop (mkF m 77 #[.val (.int p1), .val (.int p2), .val (.int p3), .val (.int p1), .val (.int p2), .val (.int (1 : Int32)), .val (.int (1 : Int32))] [(.int (1 : Int32))])) (fun t k => XS.iconst X8.here hx rfl (hb hby at_76) k) ?_
            refine own_st (F' := T8.setTop (mkF m 81 #[.val (.int p1), .val (.int p2), .val (.int p3), .val (.int p1), .val (.int p2), .val (.int (1 : Int32)), .val (.int (1 : Int32))] [(.int (1 : Int32))])) (fun t k => XS.goto X8.here hx rfl (pc0 := 77) (pc' := 81) rfl (hb hby at_77) (by decide) (by decide) k) ?_
            refine own_fin X8 (some (.int (1 : Int32))) (fun h => by rw [Bd.returns] at h; cases h) Bd.notSynchronized (by decide) (by decide) (fun fs hr => retN X8 hx (t := .boolean) Bd.returns (by simp) (hb hby at_81) hr) ?_
            rw [e8]
            exact ⟨rfl, N8⟩
      · -- pc 33: not ((p1.toUInt32 >>> ((3 : Int32) &&& 31).toUInt32).toInt32) = (0 : Int32)
        refine own_st (F' := s₁.setTop (mkF m 40 #[.val (.int p1), .val (.int p2), .val (.int p3), .val (.int p1), .val (.int p2), .unset, .unset] [])) (fun t k => XS.ifYes X0.here hx rfl (pc0 := 33) (pc' := 40) rfl (hb hby at_33) rfl ((if0 _ _).trans (feq hc3).2) (by decide) (by decide) k) ?_
        refine own_st (F' := s₁.setTop (mkF m 41 #[.val (.int p1), .val (.int p2), .val (.int p3), .val (.int p1), .val (.int p2), .unset, .unset] [(.int (0 : Int32))])) (fun t k => XS.iconst X0.here hx rfl (hb hby at_40) k) ?_
        refine own_st (F' := s₁.setTop (mkF m 43 #[.val (.int p1), .val (.int p2), .val (.int p3), .val (.int p1), .val (.int p2), .val (.int (0 : Int32)), .unset] [])) (fun t k => XS.istore X0.here hx rfl (hb hby at_41) rfl (l' := #[.val (.int p1), .val (.int p2), .val (.int p3), .val (.int p1), .val (.int p2), .val (.int (0 : Int32)), .unset]) rfl k) ?_
        refine own_st (F' := s₁.setTop (mkF m 45 #[.val (.int p1), .val (.int p2), .val (.int p3), .val (.int p1), .val (.int p2), .val (.int (0 : Int32)), .unset] [(.int (0 : Int32))])) (fun t k => XS.iload X0.here hx rfl (hb hby at_43) rfl k) ?_
        refine own_st (F' := s₁.setTop (mkF m 62 #[.val (.int p1), .val (.int p2), .val (.int p3), .val (.int p1), .val (.int p2), .val (.int (0 : Int32)), .unset] [])) (fun t k => XS.ifYes X0.here hx rfl (pc0 := 45) (pc' := 62) rfl (hb hby at_45) rfl ((if0 _ _).trans (teq (by decide : (0 : Int32) = (0 : Int32))).1) (by decide) (by decide) k) ?_
        refine own_st (F' := s₁.setTop (mkF m 63 #[.val (.int p1), .val (.int p2), .val (.int p3), .val (.int p1), .val (.int p2), .val (.int (0 : Int32)), .unset] [(.int (0 : Int32))])) (fun t k => XS.iconst X0.here hx rfl (hb hby at_62) k) ?_
        refine own_st (F' := s₁.setTop (mkF m 65 #[.val (.int p1), .val (.int p2), .val (.int p3), .val (.int p1), .val (.int p2), .val (.int (0 : Int32)), .val (.int (0 : Int32))] [])) (fun t k => XS.istore X0.here hx rfl (hb hby at_63) rfl (l' := #[.val (.int p1), .val (.int p2), .val (.int p3), .val (.int p1), .val (.int p2), .val (.int (0 : Int32)), .val (.int (0 : Int32))]) rfl k) ?_
        refine own_st (F' := s₁.setTop (mkF m 66 #[.val (.int p1), .val (.int p2), .val (.int p3), .val (.int p1), .val (.int p2), .val (.int (0 : Int32)), .val (.int (0 : Int32))] [(.int p1)])) (fun t k => XS.iloadN X0.here hx rfl (hb hby at_65) rfl k) ?_
        refine own_st (F' := s₁.setTop (mkF m 68 #[.val (.int p1), .val (.int p2), .val (.int p3), .val (.int p1), .val (.int p2), .val (.int (0 : Int32)), .val (.int (0 : Int32))] [(.int p2), (.int p1)])) (fun t k => XS.iload X0.here hx rfl (hb hby at_66) rfl k) ?_
        refine own_callS X0 hx hZ (y := (⟨"com/example/tagwright/tagwright/codec/Der", "fitsUnusedBits", "(II)Z"⟩ : MethodName)) hown (hw _ (List.mem_of_getElem? (i := 0) rfl)) (hw _ (List.mem_of_getElem? (i := 1) rfl)) (hw _ (List.mem_of_getElem? (i := 2) rfl)) (hw _ (List.mem_of_getElem? (i := 3) rfl)) (rm1 l Z a0 hw [] p1 p2 h0 n0 Z0) (by decide) (W := 0) (argsL := [(.int p1), (.int p2)]) (rest := []) (by decide) (by decide) (by rw [hml]; rfl) (lenOf own_pd0 rfl) rfl rfl (Nat.le_of_eq rfl) (hb hby at_68) e0 (by decide) (by decide) ?_
        intro v9 T9 L9 hQ9 X9
        obtain ⟨rfl, N9q, e9⟩ := hQ9
        have N9 := Fr.app N0 N9q
        show OWp p e below s _ _ _ (T9.setTop (mkF m 71 #[.val (.int p1), .val (.int p2), .val (.int p3), .val (.int p1), .val (.int p2), .val (.int (0 : Int32)), .val (.int (0 : Int32))] [(.int (oFit p1 p2))]))
        refine own_st (F' := T9.setTop (mkF m 73 #[.val (.int p1), .val (.int p2), .val (.int p3), .val (.int p1), .val (.int p2), .val (.int (0 : Int32)), .val (.int (0 : Int32))] [(.int (0 : Int32)), (.int (oFit p1 p2))])) (fun t k => XS.iload X9.here hx rfl (hb hby at_71) rfl k) ?_
        refine own_st (F' := T9.setTop (mkF m 76 #[.val (.int p1), .val (.int p2), .val (.int p3), .val (.int p1), .val (.int p2), .val (.int (0 : Int32)), .val (.int (0 : Int32))] [])) (fun t k => XS.icmpNo X9.here hx rfl (hb hby at_73) rfl (teq (by rw [own_alt, if_neg (fun z => hc3 z.1)] : (oFit p1 p2) = (0 : Int32))).2 k) ?_
        refine own_st (F' := T9.setTop (mkF m 77 #[.val (.int p1), .val (.int p2), .val (.int p3), .val (.int p1), .val (.int p2), .val (.int (0 : Int32)), .val (.int (0 : Int32))] [(.int (1 : Int32))])) (fun t k => XS.iconst X9.here hx rfl (hb hby at_76) k) ?_
        refine own_st (F' := T9.setTop (mkF m 81 #[.val (.int p1), .val (.int p2), .val (.int p3), .val (.int p1), .val (.int p2), .val (.int (0 : Int32)), .val (.int (0 : Int32))] [(.int (1 : Int32))])) (fun t k => XS.goto X9.here hx rfl (pc0 := 77) (pc' := 81) rfl (hb hby at_77) (by decide) (by decide) k) ?_
        refine own_fin X9 (some (.int (1 : Int32))) (fun h => by rw [Bd.returns] at h; cases h) Bd.notSynchronized (by decide) (by decide) (fun fs hr => retN X9 hx (t := .boolean) Bd.returns (by simp) (hb hby at_81) hr) ?_
        rw [e9]
        exact ⟨rfl, N9⟩
    · -- pc 18: not (p3 &&& (2 : Int32)) = (0 : Int32)
      refine own_st (F' := s₁.setTop (mkF m 21 #[.val (.int p1), .val (.int p2), .val (.int p3), .val (.int p1), .unset, .unset, .unset] [])) (fun t k => XS.ifNo X0.here hx rfl (hb hby at_18) rfl ((if0 _ _).trans (feq hc2).1) k) ?_
      refine own_st (F' := s₁.setTop (mkF m 22 #[.val (.int p1), .val (.int p2), .val (.int p3), .val (.int p1), .unset, .unset, .unset] [(.int p2)])) (fun t k => XS.iloadN X0.here hx rfl (hb hby at_21) rfl k) ?_
      refine own_st (F' := s₁.setTop (mkF m 23 #[.val (.int p1), .val (.int p2), .val (.int p3), .val (.int p1), .unset, .unset, .unset] [(.int (3 : Int32)), (.int p2)])) (fun t k => XS.iconst X0.here hx rfl (hb hby at_22) k) ?_
      refine own_st (F' := s₁.setTop (mkF m 24 #[.val (.int p1), .val (.int p2), .val (.int p3), .val (.int p1), .unset, .unset, .unset] [(.int (p2 % (3 : Int32)))])) (fun t k => own_irem X0.here hx rfl (hb hby at_23) rfl (by decide) k) ?_
      refine own_st (F' := s₁.setTop (mkF m 28 #[.val (.int p1), .val (.int p2), .val (.int p3), .val (.int p1), .unset, .unset, .unset] [(.int (p2 % (3 : Int32)))])) (fun t k => XS.goto X0.here hx rfl (pc0 := 24) (pc' := 28) rfl (hb hby at_24) (by decide) (by decide) k) ?_
      refine own_st (F' := s₁.setTop (mkF m 30 #[.val (.int p1), .val (.int p2), .val (.int p3), .val (.int p1), .val (.int (p2 % (3 : Int32))), .unset, .unset] [])) (fun t k => XS.istore X0.here hx rfl (hb hby at_28) rfl (l' := #[.val (.int p1), .val (.int p2), .val (.int p3), .val (.int p1), .val (.int (p2 % (3 : Int32))), .unset, .unset]) rfl k) ?_
      refine own_st (F' := s₁.setTop (mkF m 31 #[.val (.int p1), .val (.int p2), .val (.int p3), .val (.int p1), .val (.int (p2 % (3 : Int32))), .unset, .unset] [(.int p1)])) (fun t k => XS.iloadN X0.here hx rfl (hb hby at_30) rfl k) ?_
      refine own_st (F' := s₁.setTop (mkF m 32 #[.val (.int p1), .val (.int p2), .val (.int p3), .val (.int p1), .val (.int (p2 % (3 : Int32))), .unset, .unset] [(.int (3 : Int32)), (.int p1)])) (fun t k => XS.iconst X0.here hx rfl (hb hby at_31) k) ?_
      refine own_st (F' := s₁.setTop (mkF m 33 #[.val (.int p1), .val (.int p2), .val (.int p3), .val (.int p1), .val (.int (p2 % (3 : Int32))), .unset, .unset] [(.int ((p1.toUInt32 >>> ((3 : Int32) &&& 31).toUInt32).toInt32))])) (fun t k => XS.iushr X0.here hx rfl (hb hby at_32) rfl k) ?_
      by_cases hc10 : ((p1.toUInt32 >>> ((3 : Int32) &&& 31).toUInt32).toInt32) = (0 : Int32)
      · -- pc 33: ((p1.toUInt32 >>> ((3 : Int32) &&& 31).toUInt32).toInt32) = (0 : Int32)
        refine own_st (F' := s₁.setTop (mkF m 36 #[.val (.int p1), .val (.int p2), .val (.int p3), .val (.int p1), .val (.int (p2 % (3 : Int32))), .unset, .unset] [])) (fun t k => XS.ifNo X0.here hx rfl (hb hby at_33) rfl ((if0 _ _).trans (teq hc10).2) k) ?_
        refine own_st (F' := s₁.setTop (mkF m 37 #[.val (.int p1), .val (.int p2), .val (.int p3), .val (.int p1), .val (.int (p2 % (3 : Int32))), .unset, .unset] [(.int (1 : Int32))])) (fun t k => XS.iconst X0.here hx rfl (hb hby at_36) k) ?_
        refine own_st (F' := s₁.setTop (mkF m 41 #[.val (.int p1), .val (.int p2), .val (.int p3), .val (.int p1), .val (.int (p2 % (3 : Int32))), .unset, .unset] [(.int (1 : Int32))])) (fun t k => XS.goto X0.here hx rfl (pc0 := 37) (pc' := 41) rfl (hb hby at_37) (by decide) (by decide) k) ?_
        refine own_st (F' := s₁.setTop (mkF m 43 #[.val (.int p1), .val (.int p2), .val (.int p3), .val (.int p1), .val (.int (p2 % (3 : Int32))), .val (.int (1 : Int32)), .unset] [])) (fun t k => XS.istore X0.here hx rfl (hb hby at_41) rfl (l' := #[.val (.int p1), .val (.int p2), .val (.int p3), .val (.int p1), .val (.int (p2 % (3 : Int32))), .val (.int (1 : Int32)), .unset]) rfl k) ?_
        refine own_st (F' := s₁.setTop (mkF m 45 #[.val (.int p1), .val (.int p2), .val (.int p3), .val (.int p1), .val (.int (p2 % (3 : Int32))), .val (.int (1 : Int32)), .unset] [(.int (1 : Int32))])) (fun t k => XS.iload X0.here hx rfl (hb hby at_43) rfl k) ?_
        refine own_st (F' := s₁.setTop (mkF m 48 #[.val (.int p1), .val (.int p2), .val (.int p3), .val (.int p1), .val (.int (p2 % (3 : Int32))), .val (.int (1 : Int32)), .unset] [])) (fun t k => XS.ifNo X0.here hx rfl (hb hby at_45) rfl ((if0 _ _).trans (feq (by decide : ¬ ((1 : Int32) = (0 : Int32)))).1) k) ?_
        refine own_st (F' := s₁.setTop (mkF m 49 #[.val (.int p1), .val (.int p2), .val (.int p3), .val (.int p1), .val (.int (p2 % (3 : Int32))), .val (.int (1 : Int32)), .unset] [(.int p1)])) (fun t k => XS.iloadN X0.here hx rfl (hb hby at_48) rfl k) ?_
        by_cases hc11 : p1 = (0 : Int32)
        · -- pc 49: p1 = (0 : Int32)
          refine own_st (F' := s₁.setTop (mkF m 58 #[.val (.int p1), .val (.int p2), .val (.int p3), .val (.int p1), .val (.int (p2 % (3 : Int32))), .val (.int (1 : Int32)), .unset] [])) (fun t k => XS.ifYes X0.here hx rfl (pc0 := 49) (pc' := 58) rfl (hb hby at_49) rfl ((if0 _ _).trans (teq hc11).1) (by decide) (by decide) k) ?_
          refine own_st (F' := s₁.setTop (mkF m 59 #[.val (.int p1), .val (.int p2), .val (.int p3), .val (.int p1), .val (.int (p2 % (3 : Int32))), .val (.int (1 : Int32)), .unset] [(.int (1 : Int32))])) (fun t k => XS.iconst X0.here hx rfl (hb hby at_58) k) ?_
          refine own_st (F' := s₁.setTop (mkF m 63 #[.val (.int p1), .val (.int p2), .val (.int p3), .val (.int p1), .val (.int (p2 % (3 : Int32))), .val (.int (1 : Int32)), .unset] [(.int (1 : Int32))])) (fun t k => XS.goto X0.here hx rfl (pc0 := 59) (pc' := 63) rfl (hb hby at_59) (by decide) (by decide) k) ?_
          refine own_st (F' := s₁.setTop (mkF m 65 #[.val (.int p1), .val (.int p2), .val (.int p3), .val (.int p1), .val (.int (p2 % (3 : Int32))), .val (.int (1 : Int32)), .val (.int (1 : Int32))] [])) (fun t k => XS.istore X0.here hx rfl (hb hby at_63) rfl (l' := #[.val (.int p1), .val (.int p2), .val (.int p3), .val (.int p1), .val (.int (p2 % (3 : Int32))), .val (.int (1 : Int32)), .val (.int (1 : Int32))]) rfl k) ?_
          refine own_st (F' := s₁.setTop (mkF m 66 #[.val (.int p1), .val (.int p2), .val (.int p3), .val (.int p1), .val (.int (p2 % (3 : Int32))), .val (.int (1 : Int32)), .val (.int (1 : Int32))] [(.int p1)])) (fun t k => XS.iloadN X0.here hx rfl (hb hby at_65) rfl k) ?_
          refine own_st (F' := s₁.setTop (mkF m 68 #[.val (.int p1), .val (.int p2), .val (.int p3), .val (.int p1), .val (.int (p2 % (3 : Int32))), .val (.int (1 : Int32)), .val (.int (1 : Int32))] [(.int (p2 % (3 : Int32))), (.int p1)])) (fun t k => XS.iload X0.here hx rfl (hb hby at_66) rfl k) ?_
          refine own_callS X0 hx hZ (y := (⟨"com/example/tagwright/tagwright/codec/Der", "fitsUnusedBits", "(II)Z"⟩ : MethodName)) hown (hw _ (List.mem_of_getElem? (i := 0) rfl)) (hw _ (List.mem_of_getElem? (i := 1) rfl)) (hw _ (List.mem_of_getElem? (i := 2) rfl)) (hw _ (List.mem_of_getElem? (i := 3) rfl)) (rm1 l Z a0 hw [] p1 (p2 % (3 : Int32)) h0 n0 Z0) (by decide) (W := 0) (argsL := [(.int p1), (.int (p2 % (3 : Int32)))]) (rest := []) (by decide) (by decide) (by rw [hml]; rfl) (lenOf own_pd0 rfl) rfl rfl (Nat.le_of_eq rfl) (hb hby at_68) e0 (by decide) (by decide) ?_
          intro v12 T12 L12 hQ12 X12
          obtain ⟨rfl, N12q, e12⟩ := hQ12
          have N12 := Fr.app N0 N12q
          show OWp p e below s _ _ _ (T12.setTop (mkF m 71 #[.val (.int p1), .val (.int p2), .val (.int p3), .val (.int p1), .val (.int (p2 % (3 : Int32))), .val (.int (1 : Int32)), .val (.int (1 : Int32))] [(.int (oFit p1 (p2 % (3 : Int32))))]))
          refine own_st (F' := T12.setTop (mkF m 73 #[.val (.int p1), .val (.int p2), .val (.int p3), .val (.int p1), .val (.int (p2 % (3 : Int32))), .val (.int (1 : Int32)), .val (.int (1 : Int32))] [(.int (1 : Int32)), (.int (oFit p1 (p2 % (3 : Int32))))])) (fun t k => XS.iload X12.here hx rfl (hb hby at_71) rfl k) ?_
          refine own_st (F' := T12.setTop (mkF m 76 #[.val (.int p1), .val (.int p2), .val (.int p3), .val (.int p1), .val (.int (p2 % (3 : Int32))), .val (.int (1 : Int32)), .val (.int (1 : Int32))] [])) (fun t k => XS.icmpNo X12.here hx rfl (hb hby at_73) rfl (teq (by rw [own_alt, if_pos ⟨hc10, Or.inl hc11⟩] : (oFit p1 (p2 % (3 : Int32))) = (1 : Int32))).2 k) ?_
          refine own_st (F' := T12.setTop (mkF m 77 #[.val (.int p1), .val (.int p2), .val (.int p3), .val (.int p1), .val (.int (p2 % (3 : Int32))), .val (.int (1 : Int32)), .val (.int (1 : Int32))] [(.int (1 : Int32))])) (fun t k => XS.iconst X12.here hx rfl (hb hby at_76) k) ?_
          refine own_st (F' := T12.setTop (mkF m 81 #[.val (.int p1), .val (.int p2), .val (.int p3), .val (.int p1), .val (.int (p2 % (3 : Int32))), .val (.int (1 : Int32)), .val (.int (1 : Int32))] [(.int (1 : Int32))])) (fun t k => XS.goto X12.here hx rfl (pc0 := 77) (pc' := 81) rfl (hb hby at_77) (by decide) (by decide) k) ?_
          refine own_fin X12 (some (.int (1 : Int32))) (fun h => by rw [Bd.returns] at h; cases h) Bd.notSynchronized (by decide) (by decide) (fun fs hr => retN X12 hx (t := .boolean) Bd.returns (by simp) (hb hby at_81) hr) ?_
          rw [e12]
          exact ⟨rfl, N12⟩
        · -- pc 49: not p1 = (0 : Int32)
          refine own_st (F' := s₁.setTop (mkF m 52 #[.val (.int p1), .val (.int p2), .val (.int p3), .val (.int p1), .val (.int (p2 % (3 : Int32))), .val (.int (1 : Int32)), .unset] [])) (fun t k => XS.ifNo X0.here hx rfl (hb hby at_49) rfl ((if0 _ _).trans (feq hc11).1) k) ?_
          refine own_st (F' := s₁.setTop (mkF m 54 #[.val (.int p1), .val (.int p2), .val (.int p3), .val (.int p1), .val (.int (p2 % (3 : Int32))), .val (.int (1 : Int32)), .unset] [(.int (p2 % (3 : Int32)))])) (fun t k => XS.iload X0.here hx rfl (hb hby at_52) rfl k) ?_
          refine own_st (F' := s₁.setTop (mkF m 55 #[.val (.int p1), .val (.int p2), .val (.int p3), .val (.int p1), .val (.int (p2 % (3 : Int32))), .val (.int (1 : Int32)), .unset] [(.int (1 : Int32)), (.int (p2 % (3 : Int32)))])) (fun t k => XS.iconst X0.here hx rfl (hb hby at_54) k) ?_
          by_cases hc13 : (p2 % (3 : Int32)) < (1 : Int32)
          · -- pc 55: (p2 % (3 : Int32)) < (1 : Int32)
            refine own_st (F' := s₁.setTop (mkF m 62 #[.val (.int p1), .val (.int p2), .val (.int p3), .val (.int p1), .val (.int (p2 % (3 : Int32))), .val (.int (1 : Int32)), .unset] [])) (fun t k => XS.icmpYes X0.here hx rfl (pc0 := 55) (pc' := 62) rfl (hb hby at_55) rfl (tlt hc13).1 (by decide) (by decide) k) ?_
            refine own_st (F' := s₁.setTop (mkF m 63 #[.val (.int p1), .val (.int p2), .val (.int p3), .val (.int p1), .val (.int (p2 % (3 : Int32))), .val (.int (1 : Int32)), .unset] [(.int (0 : Int32))])) (fun t k => XS.iconst X0.here hx rfl (hb hby at_62) k) ?_
            refine own_st (F' := s₁.setTop (mkF m 65 #[.val (.int p1), .val (.int p2), .val (.int p3), .val (.int p1), .val (.int (p2 % (3 : Int32))), .val (.int (1 : Int32)), .val (.int (0 : Int32))] [])) (fun t k => XS.istore X0.here hx rfl (hb hby at_63) rfl (l' := #[.val (.int p1), .val (.int p2), .val (.int p3), .val (.int p1), .val (.int (p2 % (3 : Int32))), .val (.int (1 : Int32)), .val (.int (0 : Int32))]) rfl k) ?_
            refine own_st (F' := s₁.setTop (mkF m 66 #[.val (.int p1), .val (.int p2), .val (.int p3), .val (.int p1), .val (.int (p2 % (3 : Int32))), .val (.int (1 : Int32)), .val (.int (0 : Int32))] [(.int p1)])) (fun t k => XS.iloadN X0.here hx rfl (hb hby at_65) rfl k) ?_
            refine own_st (F' := s₁.setTop (mkF m 68 #[.val (.int p1), .val (.int p2), .val (.int p3), .val (.int p1), .val (.int (p2 % (3 : Int32))), .val (.int (1 : Int32)), .val (.int (0 : Int32))] [(.int (p2 % (3 : Int32))), (.int p1)])) (fun t k => XS.iload X0.here hx rfl (hb hby at_66) rfl k) ?_
            refine own_callS X0 hx hZ (y := (⟨"com/example/tagwright/tagwright/codec/Der", "fitsUnusedBits", "(II)Z"⟩ : MethodName)) hown (hw _ (List.mem_of_getElem? (i := 0) rfl)) (hw _ (List.mem_of_getElem? (i := 1) rfl)) (hw _ (List.mem_of_getElem? (i := 2) rfl)) (hw _ (List.mem_of_getElem? (i := 3) rfl)) (rm1 l Z a0 hw [] p1 (p2 % (3 : Int32)) h0 n0 Z0) (by decide) (W := 0) (argsL := [(.int p1), (.int (p2 % (3 : Int32)))]) (rest := []) (by decide) (by decide) (by rw [hml]; rfl) (lenOf own_pd0 rfl) rfl rfl (Nat.le_of_eq rfl) (hb hby at_68) e0 (by decide) (by decide) ?_
            intro v14 T14 L14 hQ14 X14
            obtain ⟨rfl, N14q, e14⟩ := hQ14
            have N14 := Fr.app N0 N14q
            show OWp p e below s _ _ _ (T14.setTop (mkF m 71 #[.val (.int p1), .val (.int p2), .val (.int p3), .val (.int p1), .val (.int (p2 % (3 : Int32))), .val (.int (1 : Int32)), .val (.int (0 : Int32))] [(.int (oFit p1 (p2 % (3 : Int32))))]))
            refine own_st (F' := T14.setTop (mkF m 73 #[.val (.int p1), .val (.int p2), .val (.int p3), .val (.int p1), .val (.int (p2 % (3 : Int32))), .val (.int (1 : Int32)), .val (.int (0 : Int32))] [(.int (0 : Int32)), (.int (oFit p1 (p2 % (3 : Int32))))])) (fun t k => XS.iload X14.here hx rfl (hb hby at_71) rfl k) ?_
            refine own_st (F' := T14.setTop (mkF m 76 #[.val (.int p1), .val (.int p2), .val (.int p3), .val (.int p1), .val (.int (p2 % (3 : Int32))), .val (.int (1 : Int32)), .val (.int (0 : Int32))] [])) (fun t k => XS.icmpNo X14.here hx rfl (hb hby at_73) rfl (teq (by rw [own_alt, if_neg (fun z => z.2.elim hc11 (fun q => q hc13))] : (oFit p1 (p2 % (3 : Int32))) = (0 : Int32))).2 k) ?_
            refine own_st (F' := T14.setTop (mkF m 77 #[.val (.int p1), .val (.int p2), .val (.int p3), .val (.int p1), .val (.int (p2 % (3 : Int32))), .val (.int (1 : Int32)), .val (.int (0 : Int32))] [(.int (1 : Int32))])) (fun t k => XS.iconst X14.here hx rfl (hb hby at_76) k) ?_
            refine own_st (F' := T14.setTop (mkF m 81 #[.val (.int p1), .val (.int p2), .val (.int p3), .val (.int p1), .val (.int (p2 % (3 : Int32))), .val (.int (1 : Int32)), .val (.int (0 : Int32))] [(.int (1 : Int32))])) (fun t k => XS.goto X14.here hx rfl (pc0 := 77) (pc' := 81) rfl (hb hby at_77) (by decide) (by decide) k) ?_
            refine own_fin X14 (some (.int (1 : Int32))) (fun h => by rw [Bd.returns] at h; cases h) Bd.notSynchronized (by decide) (by decide) (fun fs hr => retN X14 hx (t := .boolean) Bd.returns (by simp) (hb hby at_81) hr) ?_
            rw [e14]
            exact ⟨rfl, N14⟩
          · -- pc 55: not (p2 % (3 : Int32)) < (1 : Int32)
            refine own_st (F' := s₁.setTop (mkF m 58 #[.val (.int p1), .val (.int p2), .val (.int p3), .val (.int p1), .val (.int (p2 % (3 : Int32))), .val (.int (1 : Int32)), .unset] [])) (fun t k => XS.icmpNo X0.here hx rfl (hb hby at_55) rfl (flt hc13).1 k) ?_
            refine own_st (F' := s₁.setTop (mkF m 59 #[.val (.int p1), .val (.int p2), .val (.int p3), .val (.int p1), .val (.int (p2 % (3 : Int32))), .val (.int (1 : Int32)), .unset] [(.int (1 : Int32))])) (fun t k => XS.iconst X0.here hx rfl (hb hby at_58) k) ?_
            refine own_st (F' := s₁.setTop (mkF m 63 #[.val (.int p1), .val (.int p2), .val (.int p3), .val (.int p1), .val (.int (p2 % (3 : Int32))), .val (.int (1 : Int32)), .unset] [(.int (1 : Int32))])) (fun t k => XS.goto X0.here hx rfl (pc0 := 59) (pc' := 63) rfl (hb hby at_59) (by decide) (by decide) k) ?_
            refine own_st (F' := s₁.setTop (mkF m 65 #[.val (.int p1), .val (.int p2), .val (.int p3), .val (.int p1), .val (.int (p2 % (3 : Int32))), .val (.int (1 : Int32)), .val (.int (1 : Int32))] [])) (fun t k => XS.istore X0.here hx rfl (hb hby at_63) rfl (l' := #[.val (.int p1), .val (.int p2), .val (.int p3), .val (.int p1), .val (.int (p2 % (3 : Int32))), .val (.int (1 : Int32)), .val (.int (1 : Int32))]) rfl k) ?_
            refine own_st (F' := s₁.setTop (mkF m 66 #[.val (.int p1), .val (.int p2), .val (.int p3), .val (.int p1), .val (.int (p2 % (3 : Int32))), .val (.int (1 : Int32)), .val (.int (1 : Int32))] [(.int p1)])) (fun t k => XS.iloadN X0.here hx rfl (hb hby at_65) rfl k) ?_
            refine own_st (F' := s₁.setTop (mkF m 68 #[.val (.int p1), .val (.int p2), .val (.int p3), .val (.int p1), .val (.int (p2 % (3 : Int32))), .val (.int (1 : Int32)), .val (.int (1 : Int32))] [(.int (p2 % (3 : Int32))), (.int p1)])) (fun t k => XS.iload X0.here hx rfl (hb hby at_66) rfl k) ?_
            refine own_callS X0 hx hZ (y := (⟨"com/example/tagwright/tagwright/codec/Der", "fitsUnusedBits", "(II)Z"⟩ : MethodName)) hown (hw _ (List.mem_of_getElem? (i := 0) rfl)) (hw _ (List.mem_of_getElem? (i := 1) rfl)) (hw _ (List.mem_of_getElem? (i := 2) rfl)) (hw _ (List.mem_of_getElem? (i := 3) rfl)) (rm1 l Z a0 hw [] p1 (p2 % (3 : Int32)) h0 n0 Z0) (by decide) (W := 0) (argsL := [(.int p1), (.int (p2 % (3 : Int32)))]) (rest := []) (by decide) (by decide) (by rw [hml]; rfl) (lenOf own_pd0 rfl) rfl rfl (Nat.le_of_eq rfl) (hb hby at_68) e0 (by decide) (by decide) ?_
            intro v15 T15 L15 hQ15 X15
            obtain ⟨rfl, N15q, e15⟩ := hQ15
            have N15 := Fr.app N0 N15q
            show OWp p e below s _ _ _ (T15.setTop (mkF m 71 #[.val (.int p1), .val (.int p2), .val (.int p3), .val (.int p1), .val (.int (p2 % (3 : Int32))), .val (.int (1 : Int32)), .val (.int (1 : Int32))] [(.int (oFit p1 (p2 % (3 : Int32))))]))
            refine own_st (F' := T15.setTop (mkF m 73 #[.val (.int p1), .val (.int p2), .val (.int p3), .val (.int p1), .val (.int (p2 % (3 : Int32))), .val (.int (1 : Int32)), .val (.int (1 : Int32))] [(.int (1 : Int32)), (.int (oFit p1 (p2 % (3 : Int32))))])) (fun t k => XS.iload X15.here hx rfl (hb hby at_71) rfl k) ?_
            refine own_st (F' := T15.setTop (mkF m 76 #[.val (.int p1), .val (.int p2), .val (.int p3), .val (.int p1), .val (.int (p2 % (3 : Int32))), .val (.int (1 : Int32)), .val (.int (1 : Int32))] [])) (fun t k => XS.icmpNo X15.here hx rfl (hb hby at_73) rfl (teq (by rw [own_alt, if_pos ⟨hc10, Or.inr hc13⟩] : (oFit p1 (p2 % (3 : Int32))) = (1 : Int32))).2 k) ?_
            refine own_st (F' := T15.setTop (mkF m 77 #[.val (.int p1), .val (.int p2), .val (.int p3), .val (.int p1), .val (.int (p2 % (3 : Int32))), .val (.int (1 : Int32)), .val (.int (1 : Int32))] [(.int (1 : Int32))])) (fun t k => XS.iconst X15.here hx rfl (hb hby at_76) k) ?_
            refine own_st (F' := T15.setTop (mkF m 81 #[.val (.int p1), .val (.int p2), .val (.int p3), .val (.int p1), .val (.int (p2 % (3 : Int32))), .val (.int (1 : Int32)), .val (.int (1 : Int32))] [(.int (1 : Int32))])) (fun t k => XS.goto X15.here hx rfl (pc0 := 77) (pc' := 81) rfl (hb hby at_77) (by decide) (by decide) k) ?_
            refine own_fin X15 (some (.int (1 : Int32))) (fun h => by rw [Bd.returns] at h; cases h) Bd.notSynchronized (by decide) (by decide) (fun fs hr => retN X15 hx (t := .boolean) Bd.returns (by simp) (hb hby at_81) hr) ?_
            rw [e15]
            exact ⟨rfl, N15⟩
      · -- pc 33: not ((p1.toUInt32 >>> ((3 : Int32) &&& 31).toUInt32).toInt32) = (0 : Int32)
        refine own_st (F' := s₁.setTop (mkF m 40 #[.val (.int p1), .val (.int p2), .val (.int p3), .val (.int p1), .val (.int (p2 % (3 : Int32))), .unset, .unset] [])) (fun t k => XS.ifYes X0.here hx rfl (pc0 := 33) (pc' := 40) rfl (hb hby at_33) rfl ((if0 _ _).trans (feq hc10).2) (by decide) (by decide) k) ?_
        refine own_st (F' := s₁.setTop (mkF m 41 #[.val (.int p1), .val (.int p2), .val (.int p3), .val (.int p1), .val (.int (p2 % (3 : Int32))), .unset, .unset] [(.int (0 : Int32))])) (fun t k => XS.iconst X0.here hx rfl (hb hby at_40) k) ?_
        refine own_st (F' := s₁.setTop (mkF m 43 #[.val (.int p1), .val (.int p2), .val (.int p3), .val (.int p1), .val (.int (p2 % (3 : Int32))), .val (.int (0 : Int32)), .unset] [])) (fun t k => XS.istore X0.here hx rfl (hb hby at_41) rfl (l' := #[.val (.int p1), .val (.int p2), .val (.int p3), .val (.int p1), .val (.int (p2 % (3 : Int32))), .val (.int (0 : Int32)), .unset]) rfl k) ?_
        refine own_st (F' := s₁.setTop (mkF m 45 #[.val (.int p1), .val (.int p2), .val (.int p3), .val (.int p1), .val (.int (p2 % (3 : Int32))), .val (.int (0 : Int32)), .unset] [(.int (0 : Int32))])) (fun t k => XS.iload X0.here hx rfl (hb hby at_43) rfl k) ?_
        refine own_st (F' := s₁.setTop (mkF m 62 #[.val (.int p1), .val (.int p2), .val (.int p3), .val (.int p1), .val (.int (p2 % (3 : Int32))), .val (.int (0 : Int32)), .unset] [])) (fun t k => XS.ifYes X0.here hx rfl (pc0 := 45) (pc' := 62) rfl (hb hby at_45) rfl ((if0 _ _).trans (teq (by decide : (0 : Int32) = (0 : Int32))).1) (by decide) (by decide) k) ?_
        refine own_st (F' := s₁.setTop (mkF m 63 #[.val (.int p1), .val (.int p2), .val (.int p3), .val (.int p1), .val (.int (p2 % (3 : Int32))), .val (.int (0 : Int32)), .unset] [(.int (0 : Int32))])) (fun t k => XS.iconst X0.here hx rfl (hb hby at_62) k) ?_
        refine own_st (F' := s₁.setTop (mkF m 65 #[.val (.int p1), .val (.int p2), .val (.int p3), .val (.int p1), .val (.int (p2 % (3 : Int32))), .val (.int (0 : Int32)), .val (.int (0 : Int32))] [])) (fun t k => XS.istore X0.here hx rfl (hb hby at_63) rfl (l' := #[.val (.int p1), .val (.int p2), .val (.int p3), .val (.int p1), .val (.int (p2 % (3 : Int32))), .val (.int (0 : Int32)), .val (.int (0 : Int32))]) rfl k) ?_
        refine own_st (F' := s₁.setTop (mkF m 66 #[.val (.int p1), .val (.int p2), .val (.int p3), .val (.int p1), .val (.int (p2 % (3 : Int32))), .val (.int (0 : Int32)), .val (.int (0 : Int32))] [(.int p1)])) (fun t k => XS.iloadN X0.here hx rfl (hb hby at_65) rfl k) ?_
        refine own_st (F' := s₁.setTop (mkF m 68 #[.val (.int p1), .val (.int p2), .val (.int p3), .val (.int p1), .val (.int (p2 % (3 : Int32))), .val (.int (0 : Int32)), .val (.int (0 : Int32))] [(.int (p2 % (3 : Int32))), (.int p1)])) (fun t k => XS.iload X0.here hx rfl (hb hby at_66) rfl k) ?_
        refine own_callS X0 hx hZ (y := (⟨"com/example/tagwright/tagwright/codec/Der", "fitsUnusedBits", "(II)Z"⟩ : MethodName)) hown (hw _ (List.mem_of_getElem? (i := 0) rfl)) (hw _ (List.mem_of_getElem? (i := 1) rfl)) (hw _ (List.mem_of_getElem? (i := 2) rfl)) (hw _ (List.mem_of_getElem? (i := 3) rfl)) (rm1 l Z a0 hw [] p1 (p2 % (3 : Int32)) h0 n0 Z0) (by decide) (W := 0) (argsL := [(.int p1), (.int (p2 % (3 : Int32)))]) (rest := []) (by decide) (by decide) (by rw [hml]; rfl) (lenOf own_pd0 rfl) rfl rfl (Nat.le_of_eq rfl) (hb hby at_68) e0 (by decide) (by decide) ?_
        intro v16 T16 L16 hQ16 X16
        obtain ⟨rfl, N16q, e16⟩ := hQ16
        have N16 := Fr.app N0 N16q
        show OWp p e below s _ _ _ (T16.setTop (mkF m 71 #[.val (.int p1), .val (.int p2), .val (.int p3), .val (.int p1), .val (.int (p2 % (3 : Int32))), .val (.int (0 : Int32)), .val (.int (0 : Int32))] [(.int (oFit p1 (p2 % (3 : Int32))))]))
        refine own_st (F' := T16.setTop (mkF m 73 #[.val (.int p1), .val (.int p2), .val (.int p3), .val (.int p1), .val (.int (p2 % (3 : Int32))), .val (.int (0 : Int32)), .val (.int (0 : Int32))] [(.int (0 : Int32)), (.int (oFit p1 (p2 % (3 : Int32))))])) (fun t k => XS.iload X16.here hx rfl (hb hby at_71) rfl k) ?_
        refine own_st (F' := T16.setTop (mkF m 76 #[.val (.int p1), .val (.int p2), .val (.int p3), .val (.int p1), .val (.int (p2 % (3 : Int32))), .val (.int (0 : Int32)), .val (.int (0 : Int32))] [])) (fun t k => XS.icmpNo X16.here hx rfl (hb hby at_73) rfl (teq (by rw [own_alt, if_neg (fun z => hc10 z.1)] : (oFit p1 (p2 % (3 : Int32))) = (0 : Int32))).2 k) ?_
        refine own_st (F' := T16.setTop (mkF m 77 #[.val (.int p1), .val (.int p2), .val (.int p3), .val (.int p1), .val (.int (p2 % (3 : Int32))), .val (.int (0 : Int32)), .val (.int (0 : Int32))] [(.int (1 : Int32))])) (fun t k => XS.iconst X16.here hx rfl (hb hby at_76) k) ?_
        refine own_st (F' := T16.setTop (mkF m 81 #[.val (.int p1), .val (.int p2), .val (.int p3), .val (.int p1), .val (.int (p2 % (3 : Int32))), .val (.int (0 : Int32)), .val (.int (0 : Int32))] [(.int (1 : Int32))])) (fun t k => XS.goto X16.here hx rfl (pc0 := 77) (pc' := 81) rfl (hb hby at_77) (by decide) (by decide) k) ?_
        refine own_fin X16 (some (.int (1 : Int32))) (fun h => by rw [Bd.returns] at h; cases h) Bd.notSynchronized (by decide) (by decide) (fun fs hr => retN X16 hx (t := .boolean) Bd.returns (by simp) (hb hby at_81) hr) ?_
        rw [e16]
        exact ⟨rfl, N16⟩
  · -- pc 3: not (p3 &&& (1 : Int32)) = (0 : Int32)
    refine own_st (F' := s₁.setTop (mkF m 6 #[.val (.int p1), .val (.int p2), .val (.int p3), .unset, .unset, .unset, .unset] [])) (fun t k => XS.ifNo X0.here hx rfl (hb hby at_3) rfl ((if0 _ _).trans (feq hc1).1) k) ?_
    refine own_st (F' := s₁.setTop (mkF m 7 #[.val (.int p1), .val (.int p2), .val (.int p3), .unset, .unset, .unset, .unset] [(.int p1)])) (fun t k => XS.iloadN X0.here hx rfl (hb hby at_6) rfl k) ?_
    refine own_st (F' := s₁.setTop (mkF m 9 #[.val (.int p1), .val (.int p2), .val (.int p3), .unset, .unset, .unset, .unset] [(.int (10 : Int32)), (.int p1)])) (fun t k => XS.bipush X0.here hx rfl (hb hby at_7) k) ?_
    refine own_st (F' := s₁.setTop (mkF m 10 #[.val (.int p1), .val (.int p2), .val (.int p3), .unset, .unset, .unset, .unset] [(.int (p1 % (10 : Int32)))])) (fun t k => own_irem X0.here hx rfl (hb hby at_9) rfl (by decide) k) ?_
    refine own_st (F' := s₁.setTop (mkF m 14 #[.val (.int p1), .val (.int p2), .val (.int p3), .unset, .unset, .unset, .unset] [(.int (p1 % (10 : Int32)))])) (fun t k => XS.goto X0.here hx rfl (pc0 := 10) (pc' := 14) rfl (hb hby at_10) (by decide) (by decide) k) ?_
    refine own_st (F' := s₁.setTop (mkF m 15 #[.val (.int p1), .val (.int p2), .val (.int p3), .val (.int (p1 % (10 : Int32))), .unset, .unset, .unset] [])) (fun t k => XS.istoreN X0.here hx rfl (hb hby at_14) rfl (l' := #[.val (.int p1), .val (.int p2), .val (.int p3), .val (.int (p1 % (10 : Int32))), .unset, .unset, .unset]) rfl k) ?_
    refine own_st (F' := s₁.setTop (mkF m 16 #[.val (.int p1), .val (.int p2), .val (.int p3), .val (.int (p1 % (10 : Int32))), .unset, .unset, .unset] [(.int p3)])) (fun t k => XS.iloadN X0.here hx rfl (hb hby at_15) rfl k) ?_
    refine own_st (F' := s₁.setTop (mkF m 17 #[.val (.int p1), .val (.int p2), .val (.int p3), .val (.int (p1 % (10 : Int32))), .unset, .unset, .unset] [(.int (2 : Int32)), (.int p3)])) (fun t k => XS.iconst X0.here hx rfl (hb hby at_16) k) ?_
    refine own_st (F' := s₁.setTop (mkF m 18 #[.val (.int p1), .val (.int p2), .val (.int p3), .val (.int (p1 % (10 : Int32))), .unset, .unset, .unset] [(.int (p3 &&& (2 : Int32)))])) (fun t k => XS.iand X0.here hx rfl (hb hby at_17) rfl k) ?_
    by_cases hc17 : (p3 &&& (2 : Int32)) = (0 : Int32)
    · -- pc 18: (p3 &&& (2 : Int32)) = (0 : Int32)
      refine own_st (F' := s₁.setTop (mkF m 27 #[.val (.int p1), .val (.int p2), .val (.int p3), .val (.int (p1 % (10 : Int32))), .unset, .unset, .unset] [])) (fun t k => XS.ifYes X0.here hx rfl (pc0 := 18) (pc' := 27) rfl (hb hby at_18) rfl ((if0 _ _).trans (teq hc17).1) (by decide) (by decide) k) ?_
      refine own_st (F' := s₁.setTop (mkF m 28 #[.val (.int p1), .val (.int p2), .val (.int p3), .val (.int (p1 % (10 : Int32))), .unset, .unset, .unset] [(.int p2)])) (fun t k => XS.iloadN X0.here hx rfl (hb hby at_27) rfl k) ?_
      refine own_st (F' := s₁.setTop (mkF m 30 #[.val (.int p1), .val (.int p2), .val (.int p3), .val (.int (p1 % (10 : Int32))), .val (.int p2), .unset, .unset] [])) (fun t k => XS.istore X0.here hx rfl (hb hby at_28) rfl (l' := #[.val (.int p1), .val (.int p2), .val (.int p3), .val (.int (p1 % (10 : Int32))), .val (.int p2), .unset, .unset]) rfl k) ?_
      refine own_st (F' := s₁.setTop (mkF m 31 #[.val (.int p1), .val (.int p2), .val (.int p3), .val (.int (p1 % (10 : Int32))), .val (.int p2), .unset, .unset] [(.int (p1 % (10 : Int32)))])) (fun t k => XS.iloadN X0.here hx rfl (hb hby at_30) rfl k) ?_
      refine own_st (F' := s₁.setTop (mkF m 32 #[.val (.int p1), .val (.int p2), .val (.int p3), .val (.int (p1 % (10 : Int32))), .val (.int p2), .unset, .unset] [(.int (3 : Int32)), (.int (p1 % (10 : Int32)))])) (fun t k => XS.iconst X0.here hx rfl (hb hby at_31) k) ?_
      refine own_st (F' := s₁.setTop (mkF m 33 #[.val (.int p1), .val (.int p2), .val (.int p3), .val (.int (p1 % (10 : Int32))), .val (.int p2), .unset, .unset] [(.int (((p1 % (10 : Int32)).toUInt32 >>> ((3 : Int32) &&& 31).toUInt32).toInt32))])) (fun t k => XS.iushr X0.here hx rfl (hb hby at_32) rfl k) ?_
      by_cases hc18 : (((p1 % (10 : Int32)).toUInt32 >>> ((3 : Int32) &&& 31).toUInt32).toInt32) = (0 : Int32)
      · -- pc 33: (((p1 % (10 : Int32)).toUInt32 >>> ((3 : Int32) &&& 31).toUInt32).toInt32) = (0 : Int32)
        refine own_st (F' := s₁.setTop (mkF m 36 #[.val (.int p1), .val (.int p2), .val (.int p3), .val (.int (p1 % (10 : Int32))), .val (.int p2), .unset, .unset] [])) (fun t k => XS.ifNo X0.here hx rfl (hb hby at_33) rfl ((if0 _ _).trans (teq hc18).2) k) ?_
        refine own_st (F' := s₁.setTop (mkF m 37 #[.val (.int p1), .val (.int p2), .val (.int p3), .val (.int (p1 % (10 : Int32))), .val (.int p2), .unset, .unset] [(.int (1 : Int32))])) (fun t k => XS.iconst X0.here hx rfl (hb hby at_36) k) ?_
        refine own_st (F' := s₁.setTop (mkF m 41 #[.val (.int p1), .val (.int p2), .val (.int p3), .val (.int (p1 % (10 : Int32))), .val (.int p2), .unset, .unset] [(.int (1 : Int32))])) (fun t k => XS.goto X0.here hx rfl (pc0 := 37) (pc' := 41) rfl (hb hby at_37) (by decide) (by decide) k) ?_
        refine own_st (F' := s₁.setTop (mkF m 43 #[.val (.int p1), .val (.int p2), .val (.int p3), .val (.int (p1 % (10 : Int32))), .val (.int p2), .val (.int (1 : Int32)), .unset] [])) (fun t k => XS.istore X0.here hx rfl (hb hby at_41) rfl (l' := #[.val (.int p1), .val (.int p2), .val (.int p3), .val (.int (p1 % (10 : Int32))), .val (.int p2), .val (.int (1 : Int32)), .unset]) rfl k) ?_
        refine own_st (F' := s₁.setTop (mkF m 45 #[.val (.int p1), .val (.int p2), .val (.int p3), .val (.int (p1 % (10 : Int32))), .val (.int p2), .val (.int (1 : Int32)), .unset] [(.int (1 : Int32))])) (fun t k => XS.iload X0.here hx rfl (hb hby at_43) rfl k) ?_
        refine own_st (F' := s₁.setTop (mkF m 48 #[.val (.int p1), .val (.int p2), .val (.int p3), .val (.int (p1 % (10 : Int32))), .val (.int p2), .val (.int (1 : Int32)), .unset] [])) (fun t k => XS.ifNo X0.here hx rfl (hb hby at_45) rfl ((if0 _ _).trans (feq (by decide : ¬ ((1 : Int32) = (0 : Int32)))).1) k) ?_
        refine own_st (F' := s₁.setTop (mkF m 49 #[.val (.int p1), .val (.int p2), .val (.int p3), .val (.int (p1 % (10 : Int32))), .val (.int p2), .val (.int (1 : Int32)), .unset] [(.int (p1 % (10 : Int32)))])) (fun t k => XS.iloadN X0.here hx rfl (hb hby at_48) rfl k) ?_
        by_cases hc19 : (p1 % (10 : Int32)) = (0 : Int32)
        · -- pc 49: (p1 % (10 : Int32)) = (0 : Int32)
          refine own_st (F' := s₁.setTop (mkF m 58 #[.val (.int p1), .val (.int p2), .val (.int p3), .val (.int (p1 % (10 : Int32))), .val (.int p2), .val (.int (1 : Int32)), .unset] [])) (fun t k => XS.ifYes X0.here hx rfl (pc0 := 49) (pc' := 58) rfl (hb hby at_49) rfl ((if0 _ _).trans (teq hc19).1) (by decide) (by decide) k) ?_
          refine own_st (F' := s₁.setTop (mkF m 59 #[.val (.int p1), .val (.int p2), .val (.int p3), .val (.int (p1 % (10 : Int32))), .val (.int p2), .val (.int (1 : Int32)), .unset] [(.int (1 : Int32))])) (fun t k => XS.iconst X0.here hx rfl (hb hby at_58) k) ?_
          refine own_st (F' := s₁.setTop (mkF m 63 #[.val (.int p1), .val (.int p2), .val (.int p3), .val (.int (p1 % (10 : Int32))), .val (.int p2), .val (.int (1 : Int32)), .unset] [(.int (1 : Int32))])) (fun t k => XS.goto X0.here hx rfl (pc0 := 59) (pc' := 63) rfl (hb hby at_59) (by decide) (by decide) k) ?_
          refine own_st (F' := s₁.setTop (mkF m 65 #[.val (.int p1), .val (.int p2), .val (.int p3), .val (.int (p1 % (10 : Int32))), .val (.int p2), .val (.int (1 : Int32)), .val (.int (1 : Int32))] [])) (fun t k => XS.istore X0.here hx rfl (hb hby at_63) rfl (l' := #[.val (.int p1), .val (.int p2), .val (.int p3), .val (.int (p1 % (10 : Int32))), .val (.int p2), .val (.int (1 : Int32)), .val (.int (1 : Int32))]) rfl k) ?_
          refine own_st (F' := s₁.setTop (mkF m 66 #[.val (.int p1), .val (.int p2), .val (.int p3), .val (.int (p1 % (10 : Int32))), .val (.int p2), .val (.int (1 : Int32)), .val (.int (1 : Int32))] [(.int (p1 % (10 : Int32)))])) (fun t k => XS.iloadN X0.here hx rfl (hb hby at_65) rfl k) ?_
          refine own_st (F' := s₁.setTop (mkF m 68 #[.val (.int p1), .val (.int p2), .val (.int p3), .val (.int (p1 % (10 : Int32))), .val (.int p2), .val (.int (1 : Int32)), .val (.int (1 : Int32))] [(.int p2), (.int (p1 % (10 : Int32)))])) (fun t k => XS.iload X0.here hx rfl (hb hby at_66) rfl k) ?_
          refine own_callS X0 hx hZ (y := (⟨"com/example/tagwright/tagwright/codec/Der", "fitsUnusedBits", "(II)Z"⟩ : MethodName)) hown (hw _ (List.mem_of_getElem? (i := 0) rfl)) (hw _ (List.mem_of_getElem? (i := 1) rfl)) (hw _ (List.mem_of_getElem? (i := 2) rfl)) (hw _ (List.mem_of_getElem? (i := 3) rfl)) (rm1 l Z a0 hw [] (p1 % (10 : Int32)) p2 h0 n0 Z0) (by decide) (W := 0) (argsL := [(.int (p1 % (10 : Int32))), (.int p2)]) (rest := []) (by decide) (by decide) (by rw [hml]; rfl) (lenOf own_pd0 rfl) rfl rfl (Nat.le_of_eq rfl) (hb hby at_68) e0 (by decide) (by decide) ?_
          intro v20 T20 L20 hQ20 X20
          obtain ⟨rfl, N20q, e20⟩ := hQ20
          have N20 := Fr.app N0 N20q
          show OWp p e below s _ _ _ (T20.setTop (mkF m 71 #[.val (.int p1), .val (.int p2), .val (.int p3), .val (.int (p1 % (10 : Int32))), .val (.int p2), .val (.int (1 : Int32)), .val (.int (1 : Int32))] [(.int (oFit (p1 % (10 : Int32)) p2))]))
          refine own_st (F' := T20.setTop (mkF m 73 #[.val (.int p1), .val (.int p2), .val (.int p3), .val (.int (p1 % (10 : Int32))), .val (.int p2), .val (.int (1 : Int32)), .val (.int (1 : Int32))] [(.int (1 : Int32)), (.int (oFit (p1 % (10 : Int32)) p2))])) (fun t k => XS.iload X20.here hx rfl (hb hby at_71) rfl k) ?_
          refine own_st (F' := T20.setTop (mkF m 76 #[.val (.int p1), .val (.int p2), .val (.int p3), .val (.int (p1 % (10 : Int32))), .val (.int p2), .val (.int (1 : Int32)), .val (.int (1 : Int32))] [])) (fun t k => XS.icmpNo X20.here hx rfl (hb hby at_73) rfl (teq (by rw [own_alt, if_pos ⟨hc18, Or.inl hc19⟩] : (oFit (p1 % (10 : Int32)) p2) = (1 : Int32))).2 k) ?_
          refine own_st (F' := T20.setTop (mkF m 77 #[.val (.int p1), .val (.int p2), .val (.int p3), .val (.int (p1 % (10 : Int32))), .val (.int p2), .val (.int (1 : Int32)), .val (.int (1 : Int32))] [(.int (1 : Int32))])) (fun t k => XS.iconst X20.here hx rfl (hb hby at_76) k) ?_
          refine own_st (F' := T20.setTop (mkF m 81 #[.val (.int p1), .val (.int p2), .val (.int p3), .val (.int (p1 % (10 : Int32))), .val (.int p2), .val (.int (1 : Int32)), .val (.int (1 : Int32))] [(.int (1 : Int32))])) (fun t k => XS.goto X20.here hx rfl (pc0 := 77) (pc' := 81) rfl (hb hby at_77) (by decide) (by decide) k) ?_
          refine own_fin X20 (some (.int (1 : Int32))) (fun h => by rw [Bd.returns] at h; cases h) Bd.notSynchronized (by decide) (by decide) (fun fs hr => retN X20 hx (t := .boolean) Bd.returns (by simp) (hb hby at_81) hr) ?_
          rw [e20]
          exact ⟨rfl, N20⟩
        · -- pc 49: not (p1 % (10 : Int32)) = (0 : Int32)
          refine own_st (F' := s₁.setTop (mkF m 52 #[.val (.int p1), .val (.int p2), .val (.int p3), .val (.int (p1 % (10 : Int32))), .val (.int p2), .val (.int (1 : Int32)), .unset] [])) (fun t k => XS.ifNo X0.here hx rfl (hb hby at_49) rfl ((if0 _ _).trans (feq hc19).1) k) ?_
          refine own_st (F' := s₁.setTop (mkF m 54 #[.val (.int p1), .val (.int p2), .val (.int p3), .val (.int (p1 % (10 : Int32))), .val (.int p2), .val (.int (1 : Int32)), .unset] [(.int p2)])) (fun t k => XS.iload X0.here hx rfl (hb hby at_52) rfl k) ?_
          refine own_st (F' := s₁.setTop (mkF m 55 #[.val (.int p1), .val (.int p2), .val (.int p3), .val (.int (p1 % (10 : Int32))), .val (.int p2), .val (.int (1 : Int32)), .unset] [(.int (1 : Int32)), (.int p2)])) (fun t k => XS.iconst X0.here hx rfl (hb hby at_54) k) ?_
          by_cases hc21 : p2 < (1 : Int32)
          · -- pc 55: p2 < (1 : Int32)
            refine own_st (F' := s₁.setTop (mkF m 62 #[.val (.int p1), .val (.int p2), .val (.int p3), .val (.int (p1 % (10 : Int32))), .val (.int p2), .val (.int (1 : Int32)), .unset] [])) (fun t k => XS.icmpYes X0.here hx rfl (pc0 := 55) (pc' := 62) rfl (hb hby at_55) rfl (tlt hc21).1 (by decide) (by decide) k) ?_
            refine own_st (F' := s₁.setTop (mkF m 63 #[.val (.int p1), .val (.int p2), .val (.int p3), .val (.int (p1 % (10 : Int32))), .val (.int p2), .val (.int (1 : Int32)), .unset] [(.int (0 : Int32))])) (fun t k => XS.iconst X0.here hx rfl (hb hby at_62) k) ?_
            refine own_st (F' := s₁.setTop (mkF m 65 #[.val (.int p1), .val (.int p2), .val (.int p3), .val (.int (p1 % (10 : Int32))), .val (.int p2), .val (.int (1 : Int32)), .val (.int (0 : Int32))] [])) (fun t k => XS.istore X0.here hx rfl (hb hby at_63) rfl (l' := #[.val (.int p1), .val (.int p2), .val (.int p3), .val (.int (p1 % (10 : Int32))), .val (.int p2), .val (.int (1 : Int32)), .val (.int (0 : Int32))]) rfl k) ?_
            refine own_st (F' := s₁.setTop (mkF m 66 #[.val (.int p1), .val (.int p2), .val (.int p3), .val (.int (p1 % (10 : Int32))), .val (.int p2), .val (.int (1 : Int32)), .val (.int (0 : Int32))] [(.int (p1 % (10 : Int32)))])) (fun t k => XS.iloadN X0.here hx rfl (hb hby at_65) rfl k) ?_
            refine own_st (F' := s₁.setTop (mkF m 68 #[.val (.int p1), .val (.int p2), .val (.int p3), .val (.int (p1 % (10 : Int32))), .val (.int p2), .val (.int (1 : Int32)), .val (.int (0 : Int32))] [(.int p2), (.int (p1 % (10 : Int32)))])) (fun t k => XS.iload X0.here hx rfl (hb hby at_66) rfl k) ?_
            refine own_callS X0 hx hZ (y := (⟨"com/example/tagwright/tagwright/codec/Der", "fitsUnusedBits", "(II)Z"⟩ : MethodName)) hown (hw _ (List.mem_of_getElem? (i := 0) rfl)) (hw _ (List.mem_of_getElem? (i := 1) rfl)) (hw _ (List.mem_of_getElem? (i := 2) rfl)) (hw _ (List.mem_of_getElem? (i := 3) rfl)) (rm1 l Z a0 hw [] (p1 % (10 : Int32)) p2 h0 n0 Z0) (by decide) (W := 0) (argsL := [(.int (p1 % (10 : Int32))), (.int p2)]) (rest := []) (by decide) (by decide) (by rw [hml]; rfl) (lenOf own_pd0 rfl) rfl rfl (Nat.le_of_eq rfl) (hb hby at_68) e0 (by decide) (by decide) ?_
            intro v22 T22 L22 hQ22 X22
            obtain ⟨rfl, N22q, e22⟩ := hQ22
            have N22 := Fr.app N0 N22q
            show OWp p e below s _ _ _ (T22.setTop (mkF m 71 #[.val (.int p1), .val (.int p2), .val (.int p3), .val (.int (p1 % (10 : Int32))), .val (.int p2), .val (.int (1 : Int32)), .val (.int (0 : Int32))] [(.int (oFit (p1 % (10 : Int32)) p2))]))
            refine own_st (F' := T22.setTop (mkF m 73 #[.val (.int p1), .val (.int p2), .val (.int p3), .val (.int (p1 % (10 : Int32))), .val (.int p2), .val (.int (1 : Int32)), .val (.int (0 : Int32))] [(.int (0 : Int32)), (.int (oFit (p1 % (10 : Int32)) p2))])) (fun t k => XS.iload X22.here hx rfl (hb hby at_71) rfl k) ?_
            refine own_st (F' := T22.setTop (mkF m 76 #[.val (.int p1), .val (.int p2), .val (.int p3), .val (.int (p1 % (10 : Int32))), .val (.int p2), .val (.int (1 : Int32)), .val (.int (0 : Int32))] [])) (fun t k => XS.icmpNo X22.here hx rfl (hb hby at_73) rfl (teq (by rw [own_alt, if_neg (fun z => z.2.elim hc19 (fun q => q hc21))] : (oFit (p1 % (10 : Int32)) p2) = (0 : Int32))).2 k) ?_
            refine own_st (F' := T22.setTop (mkF m 77 #[.val (.int p1), .val (.int p2), .val (.int p3), .val (.int (p1 % (10 : Int32))), .val (.int p2), .val (.int (1 : Int32)), .val (.int (0 : Int32))] [(.int (1 : Int32))])) (fun t k => XS.iconst X22.here hx rfl (hb hby at_76) k) ?_
            refine own_st (F' := T22.setTop (mkF m 81 #[.val (.int p1), .val (.int p2), .val (.int p3), .val (.int (p1 % (10 : Int32))), .val (.int p2), .val (.int (1 : Int32)), .val (.int (0 : Int32))] [(.int (1 : Int32))])) (fun t k => XS.goto X22.here hx rfl (pc0 := 77) (pc' := 81) rfl (hb hby at_77) (by decide) (by decide) k) ?_
            refine own_fin X22 (some (.int (1 : Int32))) (fun h => by rw [Bd.returns] at h; cases h) Bd.notSynchronized (by decide) (by decide) (fun fs hr => retN X22 hx (t := .boolean) Bd.returns (by simp) (hb hby at_81) hr) ?_
            rw [e22]
            exact ⟨rfl, N22⟩
          · -- pc 55: not p2 < (1 : Int32)
            refine own_st (F' := s₁.setTop (mkF m 58 #[.val (.int p1), .val (.int p2), .val (.int p3), .val (.int (p1 % (10 : Int32))), .val (.int p2), .val (.int (1 : Int32)), .unset] [])) (fun t k => XS.icmpNo X0.here hx rfl (hb hby at_55) rfl (flt hc21).1 k) ?_
            refine own_st (F' := s₁.setTop (mkF m 59 #[.val (.int p1), .val (.int p2), .val (.int p3), .val (.int (p1 % (10 : Int32))), .val (.int p2), .val (.int (1 : Int32)), .unset] [(.int (1 : Int32))])) (fun t k => XS.iconst X0.here hx rfl (hb hby at_58) k) ?_
            refine own_st (F' := s₁.setTop (mkF m 63 #[.val (.int p1), .val (.int p2), .val (.int p3), .val (.int (p1 % (10 : Int32))), .val (.int p2), .val (.int (1 : Int32)), .unset] [(.int (1 : Int32))])) (fun t k => XS.goto X0.here hx rfl (pc0 := 59) (pc' := 63) rfl (hb hby at_59) (by decide) (by decide) k) ?_
            refine own_st (F' := s₁.setTop (mkF m 65 #[.val (.int p1), .val (.int p2), .val (.int p3), .val (.int (p1 % (10 : Int32))), .val (.int p2), .val (.int (1 : Int32)), .val (.int (1 : Int32))] [])) (fun t k => XS.istore X0.here hx rfl (hb hby at_63) rfl (l' := #[.val (.int p1), .val (.int p2), .val (.int p3), .val (.int (p1 % (10 : Int32))), .val (.int p2), .val (.int (1 : Int32)), .val (.int (1 : Int32))]) rfl k) ?_
            refine own_st (F' := s₁.setTop (mkF m 66 #[.val (.int p1), .val (.int p2), .val (.int p3), .val (.int (p1 % (10 : Int32))), .val (.int p2), .val (.int (1 : Int32)), .val (.int (1 : Int32))] [(.int (p1 % (10 : Int32)))])) (fun t k => XS.iloadN X0.here hx rfl (hb hby at_65) rfl k) ?_
            refine own_st (F' := s₁.setTop (mkF m 68 #[.val (.int p1), .val (.int p2), .val (.int p3), .val (.int (p1 % (10 : Int32))), .val (.int p2), .val (.int (1 : Int32)), .val (.int (1 : Int32))] [(.int p2), (.int (p1 % (10 : Int32)))])) (fun t k => XS.iload X0.here hx rfl (hb hby at_66) rfl k) ?_
            refine own_callS X0 hx hZ (y := (⟨"com/example/tagwright/tagwright/codec/Der", "fitsUnusedBits", "(II)Z"⟩ : MethodName)) hown (hw _ (List.mem_of_getElem? (i := 0) rfl)) (hw _ (List.mem_of_getElem? (i := 1) rfl)) (hw _ (List.mem_of_getElem? (i := 2) rfl)) (hw _ (List.mem_of_getElem? (i := 3) rfl)) (rm1 l Z a0 hw [] (p1 % (10 : Int32)) p2 h0 n0 Z0) (by decide) (W := 0) (argsL := [(.int (p1 % (10 : Int32))), (.int p2)]) (rest := []) (by decide) (by decide) (by rw [hml]; rfl) (lenOf own_pd0 rfl) rfl rfl (Nat.le_of_eq rfl) (hb hby at_68) e0 (by decide) (by decide) ?_
            intro v23 T23 L23 hQ23 X23
            obtain ⟨rfl, N23q, e23⟩ := hQ23
            have N23 := Fr.app N0 N23q
            show OWp p e below s _ _ _ (T23.setTop (mkF m 71 #[.val (.int p1), .val (.int p2), .val (.int p3), .val (.int (p1 % (10 : Int32))), .val (.int p2), .val (.int (1 : Int32)), .val (.int (1 : Int32))] [(.int (oFit (p1 % (10 : Int32)) p2))]))
            refine own_st (F' := T23.setTop (mkF m 73 #[.val (.int p1), .val (.int p2), .val (.int p3), .val (.int (p1 % (10 : Int32))), .val (.int p2), .val (.int (1 : Int32)), .val (.int (1 : Int32))] [(.int (1 : Int32)), (.int (oFit (p1 % (10 : Int32)) p2))])) (fun t k => XS.iload X23.here hx rfl (hb hby at_71) rfl k) ?_
            refine own_st (F' := T23.setTop (mkF m 76 #[.val (.int p1), .val (.int p2), .val (.int p3), .val (.int (p1 % (10 : Int32))), .val (.int p2), .val (.int (1 : Int32)), .val (.int (1 : Int32))] [])) (fun t k => XS.icmpNo X23.here hx rfl (hb hby at_73) rfl (teq (by rw [own_alt, if_pos ⟨hc18, Or.inr hc21⟩] : (oFit (p1 % (10 : Int32)) p2) = (1 : Int32))).2 k) ?_
            refine own_st (F' := T23.setTop (mkF m 77 #[.val (.int p1), .val (.int p2), .val (.int p3), .val (.int (p1 % (10 : Int32))), .val (.int p2), .val (.int (1 : Int32)), .val (.int (1 : Int32))] [(.int (1 : Int32))])) (fun t k => XS.iconst X23.here hx rfl (hb hby at_76) k) ?_
            refine own_st (F' := T23.setTop (mkF m 81 #[.val (.int p1), .val (.int p2), .val (.int p3), .val (.int (p1 % (10 : Int32))), .val (.int p2), .val (.int (1 : Int32)), .val (.int (1 : Int32))] [(.int (1 : Int32))])) (fun t k => XS.goto X23.here hx rfl (pc0 := 77) (pc' := 81) rfl (hb hby at_77) (by decide) (by decide) k) ?_
            refine own_fin X23 (some (.int (1 : Int32))) (fun h => by rw [Bd.returns] at h; cases h) Bd.notSynchronized (by decide) (by decide) (fun fs hr => retN X23 hx (t := .boolean) Bd.returns (by simp) (hb hby at_81) hr) ?_
            rw [e23]
            exact ⟨rfl, N23⟩
      · -- pc 33: not (((p1 % (10 : Int32)).toUInt32 >>> ((3 : Int32) &&& 31).toUInt32).toInt32) = (0 : Int32)
        refine own_st (F' := s₁.setTop (mkF m 40 #[.val (.int p1), .val (.int p2), .val (.int p3), .val (.int (p1 % (10 : Int32))), .val (.int p2), .unset, .unset] [])) (fun t k => XS.ifYes X0.here hx rfl (pc0 := 33) (pc' := 40) rfl (hb hby at_33) rfl ((if0 _ _).trans (feq hc18).2) (by decide) (by decide) k) ?_
        refine own_st (F' := s₁.setTop (mkF m 41 #[.val (.int p1), .val (.int p2), .val (.int p3), .val (.int (p1 % (10 : Int32))), .val (.int p2), .unset, .unset] [(.int (0 : Int32))])) (fun t k => XS.iconst X0.here hx rfl (hb hby at_40) k) ?_
        refine own_st (F' := s₁.setTop (mkF m 43 #[.val (.int p1), .val (.int p2), .val (.int p3), .val (.int (p1 % (10 : Int32))), .val (.int p2), .val (.int (0 : Int32)), .unset] [])) (fun t k => XS.istore X0.here hx rfl (hb hby at_41) rfl (l' := #[.val (.int p1), .val (.int p2), .val (.int p3), .val (.int (p1 % (10 : Int32))), .val (.int p2), .val (.int (0 : Int32)), .unset]) rfl k) ?_
        refine own_st (F' := s₁.setTop (mkF m 45 #[.val (.int p1), .val (.int p2), .val (.int p3), .val (.int (p1 % (10 : Int32))), .val (.int p2), .val (.int (0 : Int32)), .unset] [(.int (0 : Int32))])) (fun t k => XS.iload X0.here hx rfl (hb hby at_43) rfl k) ?_
        refine own_st (F' := s₁.setTop (mkF m 62 #[.val (.int p1), .val (.int p2), .val (.int p3), .val (.int (p1 % (10 : Int32))), .val (.int p2), .val (.int (0 : Int32)), .unset] [])) (fun t k => XS.ifYes X0.here hx rfl (pc0 := 45) (pc' := 62) rfl (hb hby at_45) rfl ((if0 _ _).trans (teq (by decide : (0 : Int32) = (0 : Int32))).1) (by decide) (by decide) k) ?_
        refine own_st (F' := s₁.setTop (mkF m 63 #[.val (.int p1), .val (.int p2), .val (.int p3), .val (.int (p1 % (10 : Int32))), .val (.int p2), .val (.int (0 : Int32)), .unset] [(.int (0 : Int32))])) (fun t k => XS.iconst X0.here hx rfl (hb hby at_62) k) ?_
        refine own_st (F' := s₁.setTop (mkF m 65 #[.val (.int p1), .val (.int p2), .val (.int p3), .val (.int (p1 % (10 : Int32))), .val (.int p2), .val (.int (0 : Int32)), .val (.int (0 : Int32))] [])) (fun t k => XS.istore X0.here hx rfl (hb hby at_63) rfl (l' := #[.val (.int p1), .val (.int p2), .val (.int p3), .val (.int (p1 % (10 : Int32))), .val (.int p2), .val (.int (0 : Int32)), .val (.int (0 : Int32))]) rfl k) ?_
        refine own_st (F' := s₁.setTop (mkF m 66 #[.val (.int p1), .val (.int p2), .val (.int p3), .val (.int (p1 % (10 : Int32))), .val (.int p2), .val (.int (0 : Int32)), .val (.int (0 : Int32))] [(.int (p1 % (10 : Int32)))])) (fun t k => XS.iloadN X0.here hx rfl (hb hby at_65) rfl k) ?_
        refine own_st (F' := s₁.setTop (mkF m 68 #[.val (.int p1), .val (.int p2), .val (.int p3), .val (.int (p1 % (10 : Int32))), .val (.int p2), .val (.int (0 : Int32)), .val (.int (0 : Int32))] [(.int p2), (.int (p1 % (10 : Int32)))])) (fun t k => XS.iload X0.here hx rfl (hb hby at_66) rfl k) ?_
        refine own_callS X0 hx hZ (y := (⟨"com/example/tagwright/tagwright/codec/Der", "fitsUnusedBits", "(II)Z"⟩ : MethodName)) hown (hw _ (List.mem_of_getElem? (i := 0) rfl)) (hw _ (List.mem_of_getElem? (i := 1) rfl)) (hw _ (List.mem_of_getElem? (i := 2) rfl)) (hw _ (List.mem_of_getElem? (i := 3) rfl)) (rm1 l Z a0 hw [] (p1 % (10 : Int32)) p2 h0 n0 Z0) (by decide) (W := 0) (argsL := [(.int (p1 % (10 : Int32))), (.int p2)]) (rest := []) (by decide) (by decide) (by rw [hml]; rfl) (lenOf own_pd0 rfl) rfl rfl (Nat.le_of_eq rfl) (hb hby at_68) e0 (by decide) (by decide) ?_
        intro v24 T24 L24 hQ24 X24
        obtain ⟨rfl, N24q, e24⟩ := hQ24
        have N24 := Fr.app N0 N24q
        show OWp p e below s _ _ _ (T24.setTop (mkF m 71 #[.val (.int p1), .val (.int p2), .val (.int p3), .val (.int (p1 % (10 : Int32))), .val (.int p2), .val (.int (0 : Int32)), .val (.int (0 : Int32))] [(.int (oFit (p1 % (10 : Int32)) p2))]))
        refine own_st (F' := T24.setTop (mkF m 73 #[.val (.int p1), .val (.int p2), .val (.int p3), .val (.int (p1 % (10 : Int32))), .val (.int p2), .val (.int (0 : Int32)), .val (.int (0 : Int32))] [(.int (0 : Int32)), (.int (oFit (p1 % (10 : Int32)) p2))])) (fun t k => XS.iload X24.here hx rfl (hb hby at_71) rfl k) ?_
        refine own_st (F' := T24.setTop (mkF m 76 #[.val (.int p1), .val (.int p2), .val (.int p3), .val (.int (p1 % (10 : Int32))), .val (.int p2), .val (.int (0 : Int32)), .val (.int (0 : Int32))] [])) (fun t k => XS.icmpNo X24.here hx rfl (hb hby at_73) rfl (teq (by rw [own_alt, if_neg (fun z => hc18 z.1)] : (oFit (p1 % (10 : Int32)) p2) = (0 : Int32))).2 k) ?_
        refine own_st (F' := T24.setTop (mkF m 77 #[.val (.int p1), .val (.int p2), .val (.int p3), .val (.int (p1 % (10 : Int32))), .val (.int p2), .val (.int (0 : Int32)), .val (.int (0 : Int32))] [(.int (1 : Int32))])) (fun t k => XS.iconst X24.here hx rfl (hb hby at_76) k) ?_
        refine own_st (F' := T24.setTop (mkF m 81 #[.val (.int p1), .val (.int p2), .val (.int p3), .val (.int (p1 % (10 : Int32))), .val (.int p2), .val (.int (0 : Int32)), .val (.int (0 : Int32))] [(.int (1 : Int32))])) (fun t k => XS.goto X24.here hx rfl (pc0 := 77) (pc' := 81) rfl (hb hby at_77) (by decide) (by decide) k) ?_
        refine own_fin X24 (some (.int (1 : Int32))) (fun h => by rw [Bd.returns] at h; cases h) Bd.notSynchronized (by decide) (by decide) (fun fs hr => retN X24 hx (t := .boolean) Bd.returns (by simp) (hb hby at_81) hr) ?_
        rw [e24]
        exact ⟨rfl, N24⟩
    · -- pc 18: not (p3 &&& (2 : Int32)) = (0 : Int32)
      refine own_st (F' := s₁.setTop (mkF m 21 #[.val (.int p1), .val (.int p2), .val (.int p3), .val (.int (p1 % (10 : Int32))), .unset, .unset, .unset] [])) (fun t k => XS.ifNo X0.here hx rfl (hb hby at_18) rfl ((if0 _ _).trans (feq hc17).1) k) ?_
      refine own_st (F' := s₁.setTop (mkF m 22 #[.val (.int p1), .val (.int p2), .val (.int p3), .val (.int (p1 % (10 : Int32))), .unset, .unset, .unset] [(.int p2)])) (fun t k => XS.iloadN X0.here hx rfl (hb hby at_21) rfl k) ?_
      refine own_st (F' := s₁.setTop (mkF m 23 #[.val (.int p1), .val (.int p2), .val (.int p3), .val (.int (p1 % (10 : Int32))), .unset, .unset, .unset] [(.int (3 : Int32)), (.int p2)])) (fun t k => XS.iconst X0.here hx rfl (hb hby at_22) k) ?_
      refine own_st (F' := s₁.setTop (mkF m 24 #[.val (.int p1), .val (.int p2), .val (.int p3), .val (.int (p1 % (10 : Int32))), .unset, .unset, .unset] [(.int (p2 % (3 : Int32)))])) (fun t k => own_irem X0.here hx rfl (hb hby at_23) rfl (by decide) k) ?_
      refine own_st (F' := s₁.setTop (mkF m 28 #[.val (.int p1), .val (.int p2), .val (.int p3), .val (.int (p1 % (10 : Int32))), .unset, .unset, .unset] [(.int (p2 % (3 : Int32)))])) (fun t k => XS.goto X0.here hx rfl (pc0 := 24) (pc' := 28) rfl (hb hby at_24) (by decide) (by decide) k) ?_
      refine own_st (F' := s₁.setTop (mkF m 30 #[.val (.int p1), .val (.int p2), .val (.int p3), .val (.int (p1 % (10 : Int32))), .val (.int (p2 % (3 : Int32))), .unset, .unset] [])) (fun t k => XS.istore X0.here hx rfl (hb hby at_28) rfl (l' := #[.val (.int p1), .val (.int p2), .val (.int p3), .val (.int (p1 % (10 : Int32))), .val (.int (p2 % (3 : Int32))), .unset, .unset]) rfl k) ?_
      refine own_st (F' := s₁.setTop (mkF m 31 #[.val (.int p1), .val (.int p2), .val (.int p3), .val (.int (p1 % (10 : Int32))), .val (.int (p2 % (3 : Int32))), .unset, .unset] [(.int (p1 % (10 : Int32)))])) (fun t k => XS.iloadN X0.here hx rfl (hb hby at_30) rfl k) ?_
      refine own_st (F' := s₁.setTop (mkF m 32 #[.val (.int p1), .val (.int p2), .val (.int p3), .val (.int (p1 % (10 : Int32))), .val (.int (p2 % (3 : Int32))), .unset, .unset] [(.int (3 : Int32)), (.int (p1 % (10 : Int32)))])) (fun t k => XS.iconst X0.here hx rfl (hb hby at_31) k) ?_
      refine own_st (F' := s₁.setTop (mkF m 33 #[.val (.int p1), .val (.int p2), .val (.int p3), .val (.int (p1 % (10 : Int32))), .val (.int (p2 % (3 : Int32))), .unset, .unset] [(.int (((p1 % (10 : Int32)).toUInt32 >>> ((3 : Int32) &&& 31).toUInt32).toInt32))])) (fun t k => XS.iushr X0.here hx rfl (hb hby at_32) rfl k) ?_
      by_cases hc25 : (((p1 % (10 : Int32)).toUInt32 >>> ((3 : Int32) &&& 31).toUInt32).toInt32) = (0 : Int32)
      · -- pc 33: (((p1 % (10 : Int32)).toUInt32 >>> ((3 : Int32) &&& 31).toUInt32).toInt32) = (0 : Int32)
        refine own_st (F' := s₁.setTop (mkF m 36 #[.val (.int p1), .val (.int p2), .val (.int p3), .val (.int (p1 % (10 : Int32))), .val (.int (p2 % (3 : Int32))), .unset, .unset] [])) (fun t k => XS.ifNo X0.here hx rfl (hb hby at_33) rfl ((if0 _ _).trans (teq hc25).2) k) ?_
        refine own_st (F' := s₁.setTop (mkF m 37 #[.val (.int p1), .val (.int p2), .val (.int p3), .val (.int (p1 % (10 : Int32))), .val (.int (p2 % (3 : Int32))), .unset, .unset] [(.int (1 : Int32))])) (fun t k => XS.iconst X0.here hx rfl (hb hby at_36) k) ?_
        refine own_st (F' := s₁.setTop (mkF m 41 #[.val (.int p1), .val (.int p2), .val (.int p3), .val (.int (p1 % (10 : Int32))), .val (.int (p2 % (3 : Int32))), .unset, .unset] [(.int (1 : Int32))])) (fun t k => XS.goto X0.here hx rfl (pc0 := 37) (pc' := 41) rfl (hb hby at_37) (by decide) (by decide) k) ?_
        refine own_st (F' := s₁.setTop (mkF m 43 #[.val (.int p1), .val (.int p2), .val (.int p3), .val (.int (p1 % (10 : Int32))), .val (.int (p2 % (3 : Int32))), .val (.int (1 : Int32)), .unset] [])) (fun t k => XS.istore X0.here hx rfl (hb hby at_41) rfl (l' := #[.val (.int p1), .val (.int p2), .val (.int p3), .val (.int (p1 % (10 : Int32))), .val (.int (p2 % (3 : Int32))), .val (.int (1 : Int32)), .unset]) rfl k) ?_
        refine own_st (F' := s₁.setTop (mkF m 45 #[.val (.int p1), .val (.int p2), .val (.int p3), .val (.int (p1 % (10 : Int32))), .val (.int (p2 % (3 : Int32))), .val (.int (1 : Int32)), .unset] [(.int (1 : Int32))])) (fun t k => XS.iload X0.here hx rfl (hb hby at_43) rfl k) ?_
        refine own_st (F' := s₁.setTop (mkF m 48 #[.val (.int p1), .val (.int p2), .val (.int p3), .val (.int (p1 % (10 : Int32))), .val (.int (p2 % (3 : Int32))), .val (.int (1 : Int32)), .unset] [])) (fun t k => XS.ifNo X0.here hx rfl (hb hby at_45) rfl ((if0 _ _).trans (feq (by decide : ¬ ((1 : Int32) = (0 : Int32)))).1) k) ?_
        refine own_st (F' := s₁.setTop (mkF m 49 #[.val (.int p1), .val (.int p2), .val (.int p3), .val (.int (p1 % (10 : Int32))), .val (.int (p2 % (3 : Int32))), .val (.int (1 : Int32)), .unset] [(.int (p1 % (10 : Int32)))])) (fun t k => XS.iloadN X0.here hx rfl (hb hby at_48) rfl k) ?_
        by_cases hc26 : (p1 % (10 : Int32)) = (0 : Int32)
        · -- pc 49: (p1 % (10 : Int32)) = (0 : Int32)
          refine own_st (F' := s₁.setTop (mkF m 58 #[.val (.int p1), .val (.int p2), .val (.int p3), .val (.int (p1 % (10 : Int32))), .val (.int (p2 % (3 : Int32))), .val (.int (1 : Int32)), .unset] [])) (fun t k => XS.ifYes X0.here hx rfl (pc0 := 49) (pc' := 58) rfl (hb hby at_49) rfl ((if0 _ _).trans (teq hc26).1) (by decide) (by decide) k) ?_
          refine own_st (F' := s₁.setTop (mkF m 59 #[.val (.int p1), .val (.int p2), .val (.int p3), .val (.int (p1 % (10 : Int32))), .val (.int (p2 % (3 : Int32))), .val (.int (1 : Int32)), .unset] [(.int (1 : Int32))])) (fun t k => XS.iconst X0.here hx rfl (hb hby at_58) k) ?_
          refine own_st (F' := s₁.setTop (mkF m 63 #[.val (.int p1), .val (.int p2), .val (.int p3), .val (.int (p1 % (10 : Int32))), .val (.int (p2 % (3 : Int32))), .val (.int (1 : Int32)), .unset] [(.int (1 : Int32))])) (fun t k => XS.goto X0.here hx rfl (pc0 := 59) (pc' := 63) rfl (hb hby at_59) (by decide) (by decide) k) ?_
          refine own_st (F' := s₁.setTop (mkF m 65 #[.val (.int p1), .val (.int p2), .val (.int p3), .val (.int (p1 % (10 : Int32))), .val (.int (p2 % (3 : Int32))), .val (.int (1 : Int32)), .val (.int (1 : Int32))] [])) (fun t k => XS.istore X0.here hx rfl (hb hby at_63) rfl (l' := #[.val (.int p1), .val (.int p2), .val (.int p3), .val (.int (p1 % (10 : Int32))), .val (.int (p2 % (3 : Int32))), .val (.int (1 : Int32)), .val (.int (1 : Int32))]) rfl k) ?_
          refine own_st (F' := s₁.setTop (mkF m 66 #[.val (.int p1), .val (.int p2), .val (.int p3), .val (.int (p1 % (10 : Int32))), .val (.int (p2 % (3 : Int32))), .val (.int (1 : Int32)), .val (.int (1 : Int32))] [(.int (p1 % (10 : Int32)))])) (fun t k => XS.iloadN X0.here hx rfl (hb hby at_65) rfl k) ?_
          refine own_st (F' := s₁.setTop (mkF m 68 #[.val (.int p1), .val (.int p2), .val (.int p3), .val (.int (p1 % (10 : Int32))), .val (.int (p2 % (3 : Int32))), .val (.int (1 : Int32)), .val (.int (1 : Int32))] [(.int (p2 % (3 : Int32))), (.int (p1 % (10 : Int32)))])) (fun t k => XS.iload X0.here hx rfl (hb hby at_66) rfl k) ?_
          refine own_callS X0 hx hZ (y := (⟨"com/example/tagwright/tagwright/codec/Der", "fitsUnusedBits", "(II)Z"⟩ : MethodName)) hown (hw _ (List.mem_of_getElem? (i := 0) rfl)) (hw _ (List.mem_of_getElem? (i := 1) rfl)) (hw _ (List.mem_of_getElem? (i := 2) rfl)) (hw _ (List.mem_of_getElem? (i := 3) rfl)) (rm1 l Z a0 hw [] (p1 % (10 : Int32)) (p2 % (3 : Int32)) h0 n0 Z0) (by decide) (W := 0) (argsL := [(.int (p1 % (10 : Int32))), (.int (p2 % (3 : Int32)))]) (rest := []) (by decide) (by decide) (by rw [hml]; rfl) (lenOf own_pd0 rfl) rfl rfl (Nat.le_of_eq rfl) (hb hby at_68) e0 (by decide) (by decide) ?_
          intro v27 T27 L27 hQ27 X27
          obtain ⟨rfl, N27q, e27⟩ := hQ27
          have N27 := Fr.app N0 N27q
          show OWp p e below s _ _ _ (T27.setTop (mkF m 71 #[.val (.int p1), .val (.int p2), .val (.int p3), .val (.int (p1 % (10 : Int32))), .val (.int (p2 % (3 : Int32))), .val (.int (1 : Int32)), .val (.int (1 : Int32))] [(.int (oFit (p1 % (10 : Int32)) (p2 % (3 : Int32))))]))
          refine own_st (F' := T27.setTop (mkF m 73 #[.val (.int p1), .val (.int p2), .val (.int p3), .val (.int (p1 % (10 : Int32))), .val (.int (p2 % (3 : Int32))), .val (.int (1 : Int32)), .val (.int (1 : Int32))] [(.int (1 : Int32)), (.int (oFit (p1 % (10 : Int32)) (p2 % (3 : Int32))))])) (fun t k => XS.iload X27.here hx rfl (hb hby at_71) rfl k) ?_
          refine own_st (F' := T27.setTop (mkF m 76 #[.val (.int p1), .val (.int p2), .val (.int p3), .val (.int (p1 % (10 : Int32))), .val (.int (p2 % (3 : Int32))), .val (.int (1 : Int32)), .val (.int (1 : Int32))] [])) (fun t k => XS.icmpNo X27.here hx rfl (hb hby at_73) rfl (teq (by rw [own_alt, if_pos ⟨hc25, Or.inl hc26⟩] : (oFit (p1 % (10 : Int32)) (p2 % (3 : Int32))) = (1 : Int32))).2 k) ?_
          refine own_st (F' := T27.setTop (mkF m 77 #[.val (.int p1), .val (.int p2), .val (.int p3), .val (.int (p1 % (10 : Int32))), .val (.int (p2 % (3 : Int32))), .val (.int (1 : Int32)), .val (.int (1 : Int32))] [(.int (1 : Int32))])) (fun t k => XS.iconst X27.here hx rfl (hb hby at_76) k) ?_
          refine own_st (F' := T27.setTop (mkF m 81 #[.val (.int p1), .val (.int p2), .val (.int p3), .val (.int (p1 % (10 : Int32))), .val (.int (p2 % (3 : Int32))), .val (.int (1 : Int32)), .val (.int (1 : Int32))] [(.int (1 : Int32))])) (fun t k => XS.goto X27.here hx rfl (pc0 := 77) (pc' := 81) rfl (hb hby at_77) (by decide) (by decide) k) ?_
          refine own_fin X27 (some (.int (1 : Int32))) (fun h => by rw [Bd.returns] at h; cases h) Bd.notSynchronized (by decide) (by decide) (fun fs hr => retN X27 hx (t := .boolean) Bd.returns (by simp) (hb hby at_81) hr) ?_
          rw [e27]
          exact ⟨rfl, N27⟩
        · -- pc 49: not (p1 % (10 : Int32)) = (0 : Int32)
          refine own_st (F' := s₁.setTop (mkF m 52 #[.val (.int p1), .val (.int p2), .val (.int p3), .val (.int (p1 % (10 : Int32))), .val (.int (p2 % (3 : Int32))), .val (.int (1 : Int32)), .unset] [])) (fun t k => XS.ifNo X0.here hx rfl (hb hby at_49) rfl ((if0 _ _).trans (feq hc26).1) k) ?_
          refine own_st (F' := s₁.setTop (mkF m 54 #[.val (.int p1), .val (.int p2), .val (.int p3), .val (.int (p1 % (10 : Int32))), .val (.int (p2 % (3 : Int32))), .val (.int (1 : Int32)), .unset] [(.int (p2 % (3 : Int32)))])) (fun t k => XS.iload X0.here hx rfl (hb hby at_52) rfl k) ?_
          refine own_st (F' := s₁.setTop (mkF m 55 #[.val (.int p1), .val (.int p2), .val (.int p3), .val (.int (p1 % (10 : Int32))), .val (.int (p2 % (3 : Int32))), .val (.int (1 : Int32)), .unset] [(.int (1 : Int32)), (.int (p2 % (3 : Int32)))])) (fun t k => XS.iconst X0.here hx rfl (hb hby at_54) k) ?_
          by_cases hc28 : (p2 % (3 : Int32)) < (1 : Int32)
          · -- pc 55: (p2 % (3 : Int32)) < (1 : Int32)
            refine own_st (F' := s₁.setTop (mkF m 62 #[.val (.int p1), .val (.int p2), .val (.int p3), .val (.int (p1 % (10 : Int32))), .val (.int (p2 % (3 : Int32))), .val (.int (1 : Int32)), .unset] [])) (fun t k => XS.icmpYes X0.here hx rfl (pc0 := 55) (pc' := 62) rfl (hb hby at_55) rfl (tlt hc28).1 (by decide) (by decide) k) ?_
            refine own_st (F' := s₁.setTop (mkF m 63 #[.val (.int p1), .val (.int p2), .val (.int p3), .val (.int (p1 % (10 : Int32))), .val (.int (p2 % (3 : Int32))), .val (.int (1 : Int32)), .unset] [(.int (0 : Int32))])) (fun t k => XS.iconst X0.here hx rfl (hb hby at_62) k) ?_
            refine own_st (F' := s₁.setTop (mkF m 65 #[.val (.int p1), .val (.int p2), .val (.int p3), .val (.int (p1 % (10 : Int32))), .val (.int (p2 % (3 : Int32))), .val (.int (1 : Int32)), .val (.int (0 : Int32))] [])) (fun t k => XS.istore X0.here hx rfl (hb hby at_63) rfl (l' := #[.val (.int p1), .val (.int p2), .val (.int p3), .val (.int (p1 % (10 : Int32))), .val (.int (p2 % (3 : Int32))), .val (.int (1 : Int32)), .val (.int (0 : Int32))]) rfl k) ?_
            refine own_st (F' := s₁.setTop (mkF m 66 #[.val (.int p1), .val (.int p2), .val (.int p3), .val (.int (p1 % (10 : Int32))), .val (.int (p2 % (3 : Int32))), .val (.int (1 : Int32)), .val (.int (0 : Int32))] [(.int (p1 % (10 : Int32)))])) (fun t k => XS.iloadN X0.here hx rfl (hb hby at_65) rfl k) ?_
            refine own_st (F' := s₁.setTop (mkF m 68 #[.val (.int p1), .val (.int p2), .val (.int p3), .val (.int (p1 % (10 : Int32))), .val (.int (p2 % (3 : Int32))), .val (.int (1 : Int32)), .val (.int (0 : Int32))] [(.int (p2 % (3 : Int32))), (.int (p1 % (10 : Int32)))])) (fun t k => XS.iload X0.here hx rfl (hb hby at_66) rfl k) ?_
            refine own_callS X0 hx hZ (y := (⟨"com/example/tagwright/tagwright/codec/Der", "fitsUnusedBits", "(II)Z"⟩ : MethodName)) hown (hw _ (List.mem_of_getElem? (i := 0) rfl)) (hw _ (List.mem_of_getElem? (i := 1) rfl)) (hw _ (List.mem_of_getElem? (i := 2) rfl)) (hw _ (List.mem_of_getElem? (i := 3) rfl)) (rm1 l Z a0 hw [] (p1 % (10 : Int32)) (p2 % (3 : Int32)) h0 n0 Z0) (by decide) (W := 0) (argsL := [(.int (p1 % (10 : Int32))), (.int (p2 % (3 : Int32)))]) (rest := []) (by decide) (by decide) (by rw [hml]; rfl) (lenOf own_pd0 rfl) rfl rfl (Nat.le_of_eq rfl) (hb hby at_68) e0 (by decide) (by decide) ?_
            intro v29 T29 L29 hQ29 X29
            obtain ⟨rfl, N29q, e29⟩ := hQ29
            have N29 := Fr.app N0 N29q
            show OWp p e below s _ _ _ (T29.setTop (mkF m 71 #[.val (.int p1), .val (.int p2), .val (.int p3), .val (.int (p1 % (10 : Int32))), .val (.int (p2 % (3 : Int32))), .val (.int (1 : Int32)), .val (.int (0 : Int32))] [(.int (oFit (p1 % (10 : Int32)) (p2 % (3 : Int32))))]))
            refine own_st (F' := T29.setTop (mkF m 73 #[.val (.int p1), .val (.int p2), .val (.int p3), .val (.int (p1 % (10 : Int32))), .val (.int (p2 % (3 : Int32))), .val (.int (1 : Int32)), .val (.int (0 : Int32))] [(.int (0 : Int32)), (.int (oFit (p1 % (10 : Int32)) (p2 % (3 : Int32))))])) (fun t k => XS.iload X29.here hx rfl (hb hby at_71) rfl k) ?_
            refine own_st (F' := T29.setTop (mkF m 76 #[.val (.int p1), .val (.int p2), .val (.int p3), .val (.int (p1 % (10 : Int32))), .val (.int (p2 % (3 : Int32))), .val (.int (1 : Int32)), .val (.int (0 : Int32))] [])) (fun t k => XS.icmpNo X29.here hx rfl (hb hby at_73) rfl (teq (by rw [own_alt, if_neg (fun z => z.2.elim hc26 (fun q => q hc28))] : (oFit (p1 % (10 : Int32)) (p2 % (3 : Int32))) = (0 : Int32))).2 k) ?_
            refine own_st (F' := T29.setTop (mkF m 77 #[.val (.int p1), .val (.int p2), .val (.int p3), .val (.int (p1 % (10 : Int32))), .val (.int (p2 % (3 : Int32))), .val (.int (1 : Int32)), .val (.int (0 : Int32))] [(.int (1 : Int32))])) (fun t k => XS.iconst X29.here hx rfl (hb hby at_76) k) ?_
            refine own_st (F' := T29.setTop (mkF m 81 #[.val (.int p1), .val (.int p2), .val (.int p3), .val (.int (p1 % (10 : Int32))), .val (.int (p2 % (3 : Int32))), .val (.int (1 : Int32)), .val (.int (0 : Int32))] [(.int (1 : Int32))])) (fun t k => XS.goto X29.here hx rfl (pc0 := 77) (pc' := 81) rfl (hb hby at_77) (by decide) (by decide) k) ?_
            refine own_fin X29 (some (.int (1 : Int32))) (fun h => by rw [Bd.returns] at h; cases h) Bd.notSynchronized (by decide) (by decide) (fun fs hr => retN X29 hx (t := .boolean) Bd.returns (by simp) (hb hby at_81) hr) ?_
            rw [e29]
            exact ⟨rfl, N29⟩
          · -- pc 55: not (p2 % (3 : Int32)) < (1 : Int32)
            refine own_st (F' := s₁.setTop (mkF m 58 #[.val (.int p1), .val (.int p2), .val (.int p3), .val (.int (p1 % (10 : Int32))), .val (.int (p2 % (3 : Int32))), .val (.int (1 : Int32)), .unset] [])) (fun t k => XS.icmpNo X0.here hx rfl (hb hby at_55) rfl (flt hc28).1 k) ?_
            refine own_st (F' := s₁.setTop (mkF m 59 #[.val (.int p1), .val (.int p2), .val (.int p3), .val (.int (p1 % (10 : Int32))), .val (.int (p2 % (3 : Int32))), .val (.int (1 : Int32)), .unset] [(.int (1 : Int32))])) (fun t k => XS.iconst X0.here hx rfl (hb hby at_58) k) ?_
            refine own_st (F' := s₁.setTop (mkF m 63 #[.val (.int p1), .val (.int p2), .val (.int p3), .val (.int (p1 % (10 : Int32))), .val (.int (p2 % (3 : Int32))), .val (.int (1 : Int32)), .unset] [(.int (1 : Int32))])) (fun t k => XS.goto X0.here hx rfl (pc0 := 59) (pc' := 63) rfl (hb hby at_59) (by decide) (by decide) k) ?_
            refine own_st (F' := s₁.setTop (mkF m 65 #[.val (.int p1), .val (.int p2), .val (.int p3), .val (.int (p1 % (10 : Int32))), .val (.int (p2 % (3 : Int32))), .val (.int (1 : Int32)), .val (.int (1 : Int32))] [])) (fun t k => XS.istore X0.here hx rfl (hb hby at_63) rfl (l' := #[.val (.int p1), .val (.int p2), .val (.int p3), .val (.int (p1 % (10 : Int32))), .val (.int (p2 % (3 : Int32))), .val (.int (1 : Int32)), .val (.int (1 : Int32))]) rfl k) ?_
            refine own_st (F' := s₁.setTop (mkF m 66 #[.val (.int p1), .val (.int p2), .val (.int p3), .val (.int (p1 % (10 : Int32))), .val (.int (p2 % (3 : Int32))), .val (.int (1 : Int32)), .val (.int (1 : Int32))] [(.int (p1 % (10 : Int32)))])) (fun t k => XS.iloadN X0.here hx rfl (hb hby at_65) rfl k) ?_
            refine own_st (F' := s₁.setTop (mkF m 68 #[.val (.int p1), .val (.int p2), .val (.int p3), .val (.int (p1 % (10 : Int32))), .val (.int (p2 % (3 : Int32))), .val (.int (1 : Int32)), .val (.int (1 : Int32))] [(.int (p2 % (3 : Int32))), (.int (p1 % (10 : Int32)))])) (fun t k => XS.iload X0.here hx rfl (hb hby at_66) rfl k) ?_
            refine own_callS X0 hx hZ (y := (⟨"com/example/tagwright/tagwright/codec/Der", "fitsUnusedBits", "(II)Z"⟩ : MethodName)) hown (hw _ (List.mem_of_getElem? (i := 0) rfl)) (hw _ (List.mem_of_getElem? (i := 1) rfl)) (hw _ (List.mem_of_getElem? (i := 2) rfl)) (hw _ (List.mem_of_getElem? (i := 3) rfl)) (rm1 l Z a0 hw [] (p1 % (10 : Int32)) (p2 % (3 : Int32)) h0 n0 Z0) (by decide) (W := 0) (argsL := [(.int (p1 % (10 : Int32))), (.int (p2 % (3 : Int32)))]) (rest := []) (by decide) (by decide) (by rw [hml]; rfl) (lenOf own_pd0 rfl) rfl rfl (Nat.le_of_eq rfl) (hb hby at_68) e0 (by decide) (by decide) ?_
            intro v30 T30 L30 hQ30 X30
            obtain ⟨rfl, N30q, e30⟩ := hQ30
            have N30 := Fr.app N0 N30q
            show OWp p e below s _ _ _ (T30.setTop (mkF m 71 #[.val (.int p1), .val (.int p2), .val (.int p3), .val (.int (p1 % (10 : Int32))), .val (.int (p2 % (3 : Int32))), .val (.int (1 : Int32)), .val (.int (1 : Int32))] [(.int (oFit (p1 % (10 : Int32)) (p2 % (3 : Int32))))]))
            refine own_st (F' := T30.setTop (mkF m 73 #[.val (.int p1), .val (.int p2), .val (.int p3), .val (.int (p1 % (10 : Int32))), .val (.int (p2 % (3 : Int32))), .val (.int (1 : Int32)), .val (.int (1 : Int32))] [(.int (1 : Int32)), (.int (oFit (p1 % (10 : Int32)) (p2 % (3 : Int32))))])) (fun t k => XS.iload X30.here hx rfl (hb hby at_71) rfl k) ?_
            refine own_st (F' := T30.setTop (mkF m 76 #[.val (.int p1), .val (.int p2), .val (.int p3), .val (.int (p1 % (10 : Int32))), .val (.int (p2 % (3 : Int32))), .val (.int (1 : Int32)), .val (.int (1 : Int32))] [])) (fun t k => XS.icmpNo X30.here hx rfl (hb hby at_73) rfl (teq (by rw [own_alt, if_pos ⟨hc25, Or.inr hc28⟩] : (oFit (p1 % (10 : Int32)) (p2 % (3 : Int32))) = (1 : Int32))).2 k) ?_
            refine own_st (F' := T30.setTop (mkF m 77 #[.val (.int p1), .val (.int p2), .val (.int p3), .val (.int (p1 % (10 : Int32))), .val (.int (p2 % (3 : Int32))), .val (.int (1 : Int32)), .val (.int (1 : Int32))] [(.int (1 : Int32))])) (fun t k => XS.iconst X30.here hx rfl (hb hby at_76) k) ?_
            refine own_st (F' := T30.setTop (mkF m 81 #[.val (.int p1), .val (.int p2), .val (.int p3), .val (.int (p1 % (10 : Int32))), .val (.int (p2 % (3 : Int32))), .val (.int (1 : Int32)), .val (.int (1 : Int32))] [(.int (1 : Int32))])) (fun t k => XS.goto X30.here hx rfl (pc0 := 77) (pc' := 81) rfl (hb hby at_77) (by decide) (by decide) k) ?_
            refine own_fin X30 (some (.int (1 : Int32))) (fun h => by rw [Bd.returns] at h; cases h) Bd.notSynchronized (by decide) (by decide) (fun fs hr => retN X30 hx (t := .boolean) Bd.returns (by simp) (hb hby at_81) hr) ?_
            rw [e30]
            exact ⟨rfl, N30⟩
      · -- pc 33: not (((p1 % (10 : Int32)).toUInt32 >>> ((3 : Int32) &&& 31).toUInt32).toInt32) = (0 : Int32)
        refine own_st (F' := s₁.setTop (mkF m 40 #[.val (.int p1), .val (.int p2), .val (.int p3), .val (.int (p1 % (10 : Int32))), .val (.int (p2 % (3 : Int32))), .unset, .unset] [])) (fun t k => XS.ifYes X0.here hx rfl (pc0 := 33) (pc' := 40) rfl (hb hby at_33) rfl ((if0 _ _).trans (feq hc25).2) (by decide) (by decide) k) ?_
        refine own_st (F' := s₁.setTop (mkF m 41 #[.val (.int p1), .val (.int p2), .val (.int p3), .val (.int (p1 % (10 : Int32))), .val (.int (p2 % (3 : Int32))), .unset, .unset] [(.int (0 : Int32))])) (fun t k => XS.iconst X0.here hx rfl (hb hby at_40) k) ?_
        refine own_st (F' := s₁.setTop (mkF m 43 #[.val (.int p1), .val (.int p2), .val (.int p3), .val (.int (p1 % (10 : Int32))), .val (.int (p2 % (3 : Int32))), .val (.int (0 : Int32)), .unset] [])) (fun t k => XS.istore X0.here hx rfl (hb hby at_41) rfl (l' := #[.val (.int p1), .val (.int p2), .val (.int p3), .val (.int (p1 % (10 : Int32))), .val (.int (p2 % (3 : Int32))), .val (.int (0 : Int32)), .unset]) rfl k) ?_
        refine own_st (F' := s₁.setTop (mkF m 45 #[.val (.int p1), .val (.int p2), .val (.int p3), .val (.int (p1 % (10 : Int32))), .val (.int (p2 % (3 : Int32))), .val (.int (0 : Int32)), .unset] [(.int (0 : Int32))])) (fun t k => XS.iload X0.here hx rfl (hb hby at_43) rfl k) ?_
        refine own_st (F' := s₁.setTop (mkF m 62 #[.val (.int p1), .val (.int p2), .val (.int p3), .val (.int (p1 % (10 : Int32))), .val (.int (p2 % (3 : Int32))), .val (.int (0 : Int32)), .unset] [])) (fun t k => XS.ifYes X0.here hx rfl (pc0 := 45) (pc' := 62) rfl (hb hby at_45) rfl ((if0 _ _).trans (teq (by decide : (0 : Int32) = (0 : Int32))).1) (by decide) (by decide) k) ?_
        refine own_st (F' := s₁.setTop (mkF m 63 #[.val (.int p1), .val (.int p2), .val (.int p3), .val (.int (p1 % (10 : Int32))), .val (.int (p2 % (3 : Int32))), .val (.int (0 : Int32)), .unset] [(.int (0 : Int32))])) (fun t k => XS.iconst X0.here hx rfl (hb hby at_62) k) ?_
        refine own_st (F' := s₁.setTop (mkF m 65 #[.val (.int p1), .val (.int p2), .val (.int p3), .val (.int (p1 % (10 : Int32))), .val (.int (p2 % (3 : Int32))), .val (.int (0 : Int32)), .val (.int (0 : Int32))] [])) (fun t k => XS.istore X0.here hx rfl (hb hby at_63) rfl (l' := #[.val (.int p1), .val (.int p2), .val (.int p3), .val (.int (p1 % (10 : Int32))), .val (.int (p2 % (3 : Int32))), .val (.int (0 : Int32)), .val (.int (0 : Int32))]) rfl k) ?_
        refine own_st (F' := s₁.setTop (mkF m 66 #[.val (.int p1), .val (.int p2), .val (.int p3), .val (.int (p1 % (10 : Int32))), .val (.int (p2 % (3 : Int32))), .val (.int (0 : Int32)), .val (.int (0 : Int32))] [(.int (p1 % (10 : Int32)))])) (fun t k => XS.iloadN X0.here hx rfl (hb hby at_65) rfl k) ?_
        refine own_st (F' := s₁.setTop (mkF m 68 #[.val (.int p1), .val (.int p2), .val (.int p3), .val (.int (p1 % (10 : Int32))), .val (.int (p2 % (3 : Int32))), .val (.int (0 : Int32)), .val (.int (0 : Int32))] [(.int (p2 % (3 : Int32))), (.int (p1 % (10 : Int32)))])) (fun t k => XS.iload X0.here hx rfl (hb hby at_66) rfl k) ?_
        refine own_callS X0 hx hZ (y := (⟨"com/example/tagwright/tagwright/codec/Der", "fitsUnusedBits", "(II)Z"⟩ : MethodName)) hown (hw _ (List.mem_of_getElem? (i := 0) rfl)) (hw _ (List.mem_of_getElem? (i := 1) rfl)) (hw _ (List.mem_of_getElem? (i := 2) rfl)) (hw _ (List.mem_of_getElem? (i := 3) rfl)) (rm1 l Z a0 hw [] (p1 % (10 : Int32)) (p2 % (3 : Int32)) h0 n0 Z0) (by decide) (W := 0) (argsL := [(.int (p1 % (10 : Int32))), (.int (p2 % (3 : Int32)))]) (rest := []) (by decide) (by decide) (by rw [hml]; rfl) (lenOf own_pd0 rfl) rfl rfl (Nat.le_of_eq rfl) (hb hby at_68) e0 (by decide) (by decide) ?_
        intro v31 T31 L31 hQ31 X31
        obtain ⟨rfl, N31q, e31⟩ := hQ31
        have N31 := Fr.app N0 N31q
        show OWp p e below s _ _ _ (T31.setTop (mkF m 71 #[.val (.int p1), .val (.int p2), .val (.int p3), .val (.int (p1 % (10 : Int32))), .val (.int (p2 % (3 : Int32))), .val (.int (0 : Int32)), .val (.int (0 : Int32))] [(.int (oFit (p1 % (10 : Int32)) (p2 % (3 : Int32))))]))
        refine own_st (F' := T31.setTop (mkF m 73 #[.val (.int p1), .val (.int p2), .val (.int p3), .val (.int (p1 % (10 : Int32))), .val (.int (p2 % (3 : Int32))), .val (.int (0 : Int32)), .val (.int (0 : Int32))] [(.int (0 : Int32)), (.int (oFit (p1 % (10 : Int32)) (p2 % (3 : Int32))))])) (fun t k => XS.iload X31.here hx rfl (hb hby at_71) rfl k) ?_
        refine own_st (F' := T31.setTop (mkF m 76 #[.val (.int p1), .val (.int p2), .val (.int p3), .val (.int (p1 % (10 : Int32))), .val (.int (p2 % (3 : Int32))), .val (.int (0 : Int32)), .val (.int (0 : Int32))] [])) (fun t k => XS.icmpNo X31.here hx rfl (hb hby at_73) rfl (teq (by rw [own_alt, if_neg (fun z => hc25 z.1)] : (oFit (p1 % (10 : Int32)) (p2 % (3 : Int32))) = (0 : Int32))).2 k) ?_
        refine own_st (F' := T31.setTop (mkF m 77 #[.val (.int p1), .val (.int p2), .val (.int p3), .val (.int (p1 % (10 : Int32))), .val (.int (p2 % (3 : Int32))), .val (.int (0 : Int32)), .val (.int (0 : Int32))] [(.int (1 : Int32))])) (fun t k => XS.iconst X31.here hx rfl (hb hby at_76) k) ?_
        refine own_st (F' := T31.setTop (mkF m 81 #[.val (.int p1), .val (.int p2), .val (.int p3), .val (.int (p1 % (10 : Int32))), .val (.int (p2 % (3 : Int32))), .val (.int (0 : Int32)), .val (.int (0 : Int32))] [(.int (1 : Int32))])) (fun t k => XS.goto X31.here hx rfl (pc0 := 77) (pc' := 81) rfl (hb hby at_77) (by decide) (by decide) k) ?_
        refine own_fin X31 (some (.int (1 : Int32))) (fun h => by rw [Bd.returns] at h; cases h) Bd.notSynchronized (by decide) (by decide) (fun fs hr => retN X31 hx (t := .boolean) Bd.returns (by simp) (hb hby at_81) hr) ?_
        rw [e31]
        exact ⟨rfl, N31⟩
set_option maxRecDepth 65536 in
set_option maxHeartbeats 40000000 in
theorem comes_1 {Post : Tables → Env → Array Value → State → Outcome → State → Prop} (hpost : ∀ tb e args s v u, (limb_1_1.after args s (.returned v) u = true ∧ limb_1_2.after args s (.returned v) u = true ∧ True) → FrameEnd s (.returned v) u (Jvm.fieldLocs frame_1_writes args s ++ Jvm.arrayLocs frame_1_arrays args s ++ Jvm.staticLocs frame_1_statics s) 0 0 → Post tb e args s (.returned v) u) :
    ArmFor flags0 classFile x code maxLocals ret World_1 tables_1 room_1 Calls_1 rest_1 Pre_1 Post := by
  intro l hfl _ _ p e ha hc hk s m args below hf hA hF happ hP
  obtain ⟨hcalls, hrest, hpre⟩ := hP
  obtain ⟨-, -, -, hnamed, -, -, -, hat⟩ := (Spec.applies_iff hf).mp happ
  obtain ⟨hg, hn⟩ := and_e (Cond.before_iff.mp (show (Jvm.Cond.and given_1 narrow_1).before args s = true from hpre))
  obtain ⟨hcount, q0⟩ := and_e hg
  obtain ⟨k0, q1⟩ := and_e q0
  obtain ⟨k1, q2⟩ := and_e q1
  obtain ⟨w0, w1, w2, rfl⟩ : ∃ w0 w1 w2 : Value, args = #[w0, w1, w2] := by
    have hs : args.size = 3 := by simpa [Cond.value, given_1] using hcount
    obtain ⟨L⟩ := args
    match L, hs with
    | [w0, w1, w2], _ => exact ⟨w0, w1, w2, rfl⟩
  have hw := fun d (hd : d ∈ tables_1) => atoms_spec (ws := Jvm.Cond.code x code maxLocals ret :: tables_1) hat d (List.mem_cons_of_mem _ hd)
  obtain ⟨i0, ei0⟩ := is_v k0
  obtain rfl : w0 = (.int i0) := Option.some.inj ei0
  obtain ⟨i1, ei1⟩ := is_v k1
  obtain rfl : w1 = (.int i1) := Option.some.inj ei1
  obtain ⟨i2, ei2⟩ := is_v q2
  obtain rfl : w2 = (.int i2) := Option.some.inj ei2
  obtain ⟨n, o, h1, h2, h3, _, L, rfl, ⟨rfl, N⟩, hq⟩ := rm0 l s _ hw tables_1 i0 i1 i2 s.heap s.heap.size (Nat.le_refl _)  p e ha hc hk s m _ below hf ((Spec.applies_iff_loose hf).mp happ).1 ⟨rfl, State.Warmed39.refl s, rfl⟩ trivial
  refine ⟨n, _, h1, h2, h3, hpost _ _ _ _ _ _ ⟨Cond.after_iff.mpr rfl, Cond.after_iff.mpr (eq_i res_at (Term.int_eval (1)) rfl), trivial⟩ ⟨hq.1, hq.2.1, (hq.2.2.sift fun y hy => Or.inr (N y hy)).mono (by decide) (by decide)⟩⟩
theorem main_1_1 : Claimed_1_1 := comes_1 fun _ _ _ _ _ _ h hF => ⟨h.1, hF⟩
theorem main_1_2 : Claimed_1_2 := comes_1 fun _ _ _ _ _ _ h hF => ⟨h.2.1, hF⟩
end Jvm.Pilot.@@N@@
namespace Jvm.Pilot.@@N@@
open Jvm Jvm.ClassFile Sem Op Lib Jvm.Free Jvm.Stand Jvm.Pilot.@@N@@.Jvm.D
/-! MADE BY PROGRAM (witnessworld.py) out of the Statement's table words and the real class files: 9 classes; the members and pool entries that the words name. The judged class is class 1, her method 1. -/
namespace start1
open Jvm.ClassFile
def u (s : String) : CpInfo := .utf8 (stringToUtf16 s)
/-- a pool by its gaps: so many unusable entries, then the entry; so many at the end -/
def gap : Nat → List CpInfo → List CpInfo
  | 0, r => r
  | n + 1, r => .unusable :: gap n r
def poolList (es : List (Nat × CpInfo)) (last : Nat) : List CpInfo := es.foldr (fun e r => gap e.1 (e.2 :: r)) (gap last [])
def pool (es : List (Nat × CpInfo)) (last : Nat) : Array CpInfo := ⟨poolList es last⟩
def fileOf (pool : Array CpInfo) (this : Nat) (attrs : Array Attribute := #[]) (ms : Array MethodInfo := #[]) (fl : Nat := 33) (sup : Nat := 0) (ifs : Array Nat := #[]) (fds : Array FieldInfo := #[]) : ClassFile where
  minorVersion := 0
  majorVersion := 65
  constantPool := pool
  accessFlags := fl
  thisClass := this
  superClass := sup
  interfaces := ifs
  fields := fds
  methods := ms
  attributes := attrs
def plain (name : String) (sup : Option ClassId) : Class where
  name := name
  kind := .ordinary
  loader := none
  accessFlags := 33
  super := sup
  interfaces := #[]
  cf := none
  fields := #[]
  methods := #[]
  instanceTypes := #[]
  staticTypes := #[]
  resolved := #[]
  callSites := []
  init := .initialized
  statics := none
  mirror := none

def pool0 : Array CpInfo := pool [(5, u "<init>"), (0, u "()V"), (1, .class_ 10), (1, u "java/lang/Object")] 113

def k0m0 : Method := { name := "<init>", desc := "()V", sig := { parameters := [], returnType := none }, accessFlags := 1, code := none }
/-- java/lang/Object -/
def k0 : Class := { plain "java/lang/Object" none with
  accessFlags := 33
  interfaces := #[]
  cf := some (fileOf pool0 8 #[] #[{ accessFlags := 1, nameIndex := 5, descriptorIndex := 6, attributes := #[] }] 33 0 #[] #[])
  fields := #[]
  methods := #[k0m0]
  instanceTypes := #[]
  staticTypes := #[]
  resolved := Array.replicate 124 none
  statics := none }

def pool1 : Array CpInfo := pool [(2, .class_ 4), (1, u "java/lang/Object"), (0, u "<init>"), (0, u "()V"), (0, .methodref 8 9), (0, .class_ 10), (0, .nameAndType 11 12), (0, u "com/example/tagwright/tagwright/codec/Der"), (0, u "fitsUnusedBits"), (0, u "(II)Z"), (0, .class_ 14), (0, u "com/example/tagwright/tagwright/codec/DerFitsUnusedBitsPinLaw"), (2, u "law"), (0, u "(III)Z")] 3

def k1m0 : Method := { name := "<init>", desc := "()V", sig := { parameters := [], returnType := none }, accessFlags := 2, code := none }
def k1c1 : Code := { maxStack := 2, maxLocals := 7, code := code, exceptionTable := #[], attributes := #[] }
def k1m1 : Method := { name := "law", desc := "(III)Z", sig := { parameters := [.int, .int, .int], returnType := some .boolean }, accessFlags := 9, code := some k1c1 }
/-- com/example/tagwright/tagwright/codec/DerFitsUnusedBitsPinLaw -/
def k1 : Class := { plain "com/example/tagwright/tagwright/codec/DerFitsUnusedBitsPinLaw" (some 0) with
  accessFlags := 49
  interfaces := #[]
  cf := some (fileOf pool1 13 #[] #[{ accessFlags := 2, nameIndex := 5, descriptorIndex := 6, attributes := #[] }, { accessFlags := 9, nameIndex := 17, descriptorIndex := 18, attributes := #[] }] 49 2 #[] #[])
  fields := #[]
  methods := #[k1m0, k1m1]
  instanceTypes := #[]
  staticTypes := #[]
  resolved := Array.replicate 22 none
  statics := none }

def pool2 : Array CpInfo := pool [(2, .class_ 4), (1, u "java/lang/Object"), (0, u "<init>"), (0, u "()V"), (31, .class_ 40), (1, u "com/example/tagwright/tagwright/codec/Der"), (73, u "FORTY"), (0, u "Ljava/math/BigInteger;"), (92, u "fitsUnusedBits"), (0, u "(II)Z"), (144, u "SECOND_ARCS"), (0, u "I"), (2, u "MAX_UNUSED_BITS")] 58

def k2m0 : Method := { name := "<init>", desc := "()V", sig := { parameters := [], returnType := none }, accessFlags := 2, code := none }
def k2c1 : Code := { maxStack := 2, maxLocals := 2, code := prog_15_method_22_code, exceptionTable := #[], attributes := #[] }
def k2m1 : Method := { name := "fitsUnusedBits", desc := "(II)Z", sig := { parameters := [.int, .int], returnType := some .boolean }, accessFlags := 8, code := some k2c1 }
/-- com/example/tagwright/tagwright/codec/Der -/
def k2 : Class := { plain "com/example/tagwright/tagwright/codec/Der" (some 0) with
  accessFlags := 49
  interfaces := #[]
  cf := some (fileOf pool2 38 #[] #[{ accessFlags := 2, nameIndex := 5, descriptorIndex := 6, attributes := #[] }, { accessFlags := 8, nameIndex := 208, descriptorIndex := 209, attributes := #[] }] 49 2 #[] #[{ accessFlags := 26, nameIndex := 354, descriptorIndex := 355, attributes := #[] }, { accessFlags := 26, nameIndex := 114, descriptorIndex := 115, attributes := #[] }, { accessFlags := 26, nameIndex := 358, descriptorIndex := 355, attributes := #[] }])
  fields := #[{ name := "SECOND_ARCS", type := .int, accessFlags := 26, slot := 0, constantValue := 0 }, { name := "FORTY", type := (.object "java/math/BigInteger"), accessFlags := 26, slot := 1, constantValue := 0 }, { name := "MAX_UNUSED_BITS", type := .int, accessFlags := 26, slot := 2, constantValue := 0 }]
  methods := #[k2m0, k2m1]
  instanceTypes := #[]
  staticTypes := #[.int, (.object "java/math/BigInteger"), .int]
  resolved := Array.replicate 417 none
  statics := none }

def pool3 : Array CpInfo := pool [(1, u "java/lang/Cloneable"), (0, .class_ 1), (0, u "java/lang/Object"), (0, .class_ 3)] 3

/-- java/lang/Cloneable -/
def k3 : Class := { plain "java/lang/Cloneable" (some 0) with
  accessFlags := 1537
  interfaces := #[]
  cf := some (fileOf pool3 2 #[] #[] 1537 4 #[] #[])
  fields := #[]
  methods := #[]
  instanceTypes := #[]
  staticTypes := #[]
  resolved := Array.replicate 8 none
  statics := none }

def pool4 : Array CpInfo := pool [(1, u "java/io/Serializable"), (0, .class_ 1), (0, u "java/lang/Object"), (0, .class_ 3)] 3

/-- java/io/Serializable -/
def k4 : Class := { plain "java/io/Serializable" (some 0) with
  accessFlags := 1537
  interfaces := #[]
  cf := some (fileOf pool4 2 #[] #[] 1537 4 #[] #[])
  fields := #[]
  methods := #[]
  instanceTypes := #[]
  staticTypes := #[]
  resolved := Array.replicate 8 none
  statics := none }

/-- the primitive byte -/
def k5 : Class := { plain "byte" none with kind := .primitive 'B', accessFlags := 0x411 }
/-- [B -/
def k6 : Class := { plain "[B" (some 0) with kind := .array 5 .byte, interfaces := #[3, 4], accessFlags := 1041 }

/-- the primitive int -/
def k7 : Class := { plain "int" none with kind := .primitive 'I', accessFlags := 0x411 }
/-- [I -/
def k8 : Class := { plain "[I" (some 0) with kind := .array 7 .int, interfaces := #[3, 4], accessFlags := 1041 }

def heap : Heap := #[]
def classes : Array Class := #[k0, k1, k2, k3, k4, k5, k6, k7, k8]
def interned : List (Array UInt16 × Addr) := []
def slotsUsed : Nat := 0
def theMethod : MethodId := ⟨1, 1⟩
def args0 : Array Value := #[.int 5, .int 1, .int 0]
def aboutOver (below : List Frame) : State where
  vm := { classes := classes, interned := interned.toArray }
  heap := heap
  slotsUsed := slotsUsed
  threads := #[{ frames := .invoking theMethod args0 :: below }]
def below0 : List Frame := [.native { method := ⟨0, 0⟩, args := #[] }]
def about1 : State := aboutOver below0
def p0 : Program := .bare "" "" ""
def e0 : Env := launch0.env 0 0 0
theorem w_frames : about1.frames = Frame.invoking theMethod args0 :: below0 := rfl
set_option maxRecDepth 65536 in
theorem w_args : argsFit about1.vm theMethod args0 = true := by decide +kernel
set_option maxRecDepth 65536 in
theorem w_heap : heapFits about1 = true := by decide +kernel
set_option maxRecDepth 65536 in
theorem w_runnable : about1.curStatus? = some .runnable := by decide +kernel
set_option maxRecDepth 65536 in
theorem w_alone : about1.alone = true := by decide +kernel
set_option maxRecDepth 65536 in
theorem w_named : about1.methodNamed? x = some theMethod := by decide +kernel
set_option maxRecDepth 65536 in
theorem w_hears : about1.hears theMethod below0 = true := by decide +kernel
set_option maxRecDepth 65536 in
theorem w_ripe : about1.ripe theMethod args0 below0 = true := by decide +kernel
theorem w_running : about1.status = .running := rfl
set_option maxRecDepth 65536 in
theorem w_room : about1.hasRoom e0.platform room_1 = true :=
  launch0.hasRoom_least _ room_1 (by decide +kernel) (by decide +kernel) (by decide +kernel) (by decide +kernel) (by decide +kernel) (by decide +kernel)
theorem allAtoms_all (ts : List Jvm.Cond) (a : Array Jvm.Value) (st : Jvm.State) : (allAtoms ts).before a st = ts.all (fun c => c.before a st) := by
  induction ts with
  | nil => rfl
  | cons c t ih =>
    show (Jvm.Cond.and c (allAtoms t)).before a st = _
    rw [Jvm.Cond.before_and, ih, List.all_cons]
def words1 : List Jvm.Cond := Jvm.Cond.code x code maxLocals ret :: tables_1
/-- a 'code' word, met by the world's own term for the bytes: nothing is compared byte by byte -/
theorem code_word {y : MethodName} {bytes : ByteArray} {mx : Nat} {rt : Option FieldType} {a : Array Value} {s : State} {m : MethodId} {meth : Method} {c : Code} (h1 : s.methodNamed? y = some m) (h2 : s.vm.method? m = some meth) (h3 : meth.code = some c) (h4 : c.code = bytes)
    (h5 : (c.maxLocals == mx && c.exceptionTable.isEmpty && decide (c.maxStack ≤ mostOperands) && decide (meth.sig.returnType = rt) && !meth.locks && decide (parseMethodDescriptor y.desc = some meth.sig)) = true) : (Jvm.Cond.code y bytes mx rt).before a s = true := by
  simp only [Bool.and_eq_true, beq_iff_eq, Bool.not_eq_true', decide_eq_true_eq] at h5
  obtain ⟨⟨⟨⟨⟨g1, g2⟩, g3⟩, g4⟩, g5⟩, g6⟩ := h5
  simp [Cond.before, Cond.holds, Cond.value, h1, h2, h3, h4, g1, g2, g3, g4, g5, g6]
def isCode : Jvm.Cond → Bool
  | .code _ _ _ _ => true
  | _ => false
theorem all_split {L : List Jvm.Cond} {P : Jvm.Cond → Bool} (h1 : L.all (fun c => isCode c || P c) = true) (h2 : ∀ c ∈ L.filter isCode, P c = true) : L.all P = true := by
  refine List.all_eq_true.mpr fun c hc => ?_
  have h := List.all_eq_true.mp h1 c hc
  rcases Bool.eq_false_or_eq_true (isCode c) with hi | hi
  · exact h2 c (List.mem_filter.mpr ⟨hc, hi⟩)
  · simpa [hi] using h
set_option maxRecDepth 65536 in
theorem w_c0 : (Jvm.Cond.code x code maxLocals ret).before args0 about1 = true := code_word (m := ⟨1, 1⟩) (meth := k1m1) (c := k1c1) (by decide +kernel) rfl rfl rfl (by decide +kernel)
set_option maxRecDepth 65536 in
theorem w_c1 : (Jvm.Cond.code ({ cls := "com/example/tagwright/tagwright/codec/Der", name := "fitsUnusedBits", desc := "(II)Z" } : Jvm.MethodName) prog_15_method_22_code (2 : Nat) (Option.some Jvm.ClassFile.FieldType.boolean)).before args0 about1 = true := code_word (m := ⟨2, 1⟩) (meth := k2m1) (c := k2c1) (by decide +kernel) rfl rfl rfl (by decide +kernel)
def codes1 : List Jvm.Cond := [Jvm.Cond.code x code maxLocals ret, Jvm.Cond.code ({ cls := "com/example/tagwright/tagwright/codec/Der", name := "fitsUnusedBits", desc := "(II)Z" } : Jvm.MethodName) prog_15_method_22_code (2 : Nat) (Option.some Jvm.ClassFile.FieldType.boolean)]
set_option maxRecDepth 65536 in
theorem codes_eq : words1.filter isCode = codes1 := rfl
theorem w_codes : ∀ c ∈ words1.filter isCode, c.before args0 about1 = true := by
  rw [codes_eq]
  intro c hc
  simp only [codes1, List.mem_cons, List.not_mem_nil, or_false] at hc
  rcases hc with rfl | rfl
  · exact w_c0
  · exact w_c1
set_option maxRecDepth 65536 in
theorem w_t1 : words1.all (fun c => isCode c || c.before args0 about1) = true := by decide +kernel
theorem w_tables : (allAtoms (Jvm.Cond.code x code maxLocals ret :: tables_1)).before args0 about1 = true := by
  rw [allAtoms_all]
  show words1.all (fun c => c.before args0 about1) = true
  refine all_split ?_ w_codes
  rw [w_t1]
set_option maxRecDepth 65536 in
theorem w_case : (Jvm.Cond.and given_1 narrow_1).before args0 about1 = true := by decide +kernel
theorem w_applies : (headSpec (Jvm.Cond.code x code maxLocals ret :: tables_1) room_1).applies x e0.platform about1 = true :=
  (Spec.applies_iff w_frames).mpr ⟨w_running, w_runnable, w_alone, w_named, w_hears, w_ripe, w_room, w_tables⟩
theorem atStart : AtStart classFile x code maxLocals ret World_1 tables_1 room_1 Calls_1 rest_1 Pre_1 launch0 p0 e0 about1 theMethod args0 below0 :=
  ⟨lists_1, trivial, launch0.admits_env _ _ _, launch0.least_env, fairChoices_fair.cas, fairChoices_fair.clock, w_frames, w_args, w_heap, w_applies, trivial, trivial, w_case⟩
end start1
theorem witness_1 : WitnessClaimed_1 := ⟨start1.p0, start1.e0, start1.about1, start1.theMethod, start1.args0, start1.below0, start1.atStart⟩
end Jvm.Pilot.@@N@@
