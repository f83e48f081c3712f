import JvmDerived
import JvmDerived.Pilot.@@N@@Statement
import JvmDerived.Pilot.@@N@@Code
set_option linter.unusedVariables false
set_option linter.unusedSimpArgs false
namespace Jvm.Pilot.@@N@@
open Jvm Jvm.ClassFile Sem Op Lib Jvm.Free Jvm.Stand Jvm.LawKit Jvm.RoadKit Bundle Jvm.Pilot.@@N@@.Jvm.D

section OwnKit
variable {p : Program} {l : Launch} {e : Env} {R : Room} {s : State} {m : MethodId} {args : Array Value} {below : List Frame} {meth : Method} {c : Code} {T : State} {locs : List Loc} {cells slots : Nat} {Z : State} {a0 : Array Value} {h : Heap} {kc ks : Nat} {Q : Option Value → Heap → List Loc → Prop}
/-- the run from F comes to the method's end, where Q holds -/
def OWp (p : Program) (e : Env) (below : List Frame) (s : State) (kc ks : Nat) (Q : Option Value → Heap → List Loc → Prop) (F : State) : Prop :=
  ∃ s₂ o, Steps p.tables e below F s₂ ∧ s₂.status = .running ∧ Ended s₂ below o ∧ ∃ v L, o = .returned v ∧ Q v s₂.heap L ∧ FrameEnd s o s₂ L kc ks
theorem own_st {F F' : State} (h : ∀ t, Steps p.tables e below F' t → Steps p.tables e below F t) (w : OWp p e below s kc ks Q F') : OWp p e below s kc ks Q F := by
  obtain ⟨s₂, o, h1, r⟩ := w
  exact ⟨s₂, o, h _ h1, r⟩
theorem own_fin (X : Stand p l e R s m args below meth c T locs cells slots) {F : State} (v : Option Value) (hv : meth.sig.returnType = none → v = none) (hlocks : meth.locks = false) (hk : cells ≤ kc) (hn : slots ≤ ks)
    (hst : ∀ fs, (∀ (f : JFrame) (acts : List Action), f.method = m → f.locked = none → f.entered = [] → (doReturn e (T.setTop f) acts v).1 = T.setFrames fs) → Steps p.tables e below F (T.setFrames fs))
    (hq : Q v T.heap locs) : OWp p e below s kc ks Q F := by
  obtain ⟨fs, hr, hrun, hended, hW, hsame⟩ := X.leave (v := v) hv hlocks
  exact ⟨_, _, hst fs hr, hrun, hended, v, locs, rfl, hq, ⟨_, rfl⟩, hW, hsame.mono hk hn⟩
theorem own_irem_mod (x y : Int32) : x - (x / y) * y = x % y := by
  apply Int32.toInt_inj.mp
  rw [Int32.toInt_sub, Int32.toInt_mul, Int32.toInt_div, Int32.toInt_mod, Int.bmod_mul_bmod, Int.sub_bmod_bmod, Int.mul_comm, ← Int.tmod_def]
  have a := (x % y).toInt_lt; have b := (x % y).le_toInt
  rw [Int32.toInt_mod] at a b
  exact Int.bmod_eq_of_le (by omega) (by omega)
theorem own_irem {tb : Tables} [Ours tb] {e : Env} {below : List Frame} {T target : State} {m : MethodId} {c : Code} {g : JFrame} (h : At T m c below) (hx : tb.exec = Jvm.exec) (hg : g.method = m) {x y : Int32} {rest : List Value} (hd : decode c.code g.pc = .ok (.irem, 1)) (hs : g.stack = .int y :: .int x :: rest) (hy : y ≠ 0)
    (hr : Steps tb e below (T.setTop { g with pc := g.pc + 1, stack := .int (x % y) :: rest }) target) : Steps tb e below (T.setTop g) target :=
  XS.irem h hx hg hd hs hy (by rw [own_irem_mod]; exact hr)
theorem own_callS (X : Stand p l e R s m args below meth c T locs cells slots) (hx : p.tables.exec = Jvm.exec) (hZ : Z.Warmed39 s.vm) {own : String} {index : Nat} {y : MethodName} {bytes : ByteArray} {maxL : Nat} {ret : Option FieldType} {rm : Room} {Qc : Option Value → Heap → List Loc → Prop} {as' : Array Value}
    (hown : s.vm.findClass own = some m.cls) (wl : (Jvm.Cond.methodLink own index y).before a0 Z = true) (wst : (Jvm.Cond.static y).before a0 Z = true) (wz : (Jvm.Cond.initialized y.cls).before a0 Z = true) (wc : (Jvm.Cond.code y bytes maxL ret).before a0 Z = true)
    (hM : MetFree l y (head1 [Jvm.Cond.code y bytes maxL ret] rm) (fun a U => a = as' ∧ Z.Warmed39 U.vm ∧ U.heap = h) (fun _ _ _ _ _ => True) (fun _ U o U' => ∃ v L, o = .returned v ∧ Qc v U'.heap L ∧ FrameEnd U o U' L rm.cells rm.slots))
    (hy : y.cls ≠ "java/lang/invoke/MethodHandle" ∧ y.cls ≠ "java/lang/invoke/VarHandle") {W pc : Nat} {Ls : Array Slot} {stk argsL rest : List Value} (hf : rm.frames + 1 ≤ R.frames) (hl : W + (maxL + 11) + rm.locals ≤ R.locals)
    (hsize : Ls.size = c.maxLocals) (hlen : ∀ sig, parseMethodDescriptor y.desc = some sig → argsL.length = sig.parameters.length) (hstk : stk = argsL.reverse ++ rest) (has : argsL.toArray = as') (hW : 2 * 0 + (rest.map fun v => v.category).sum ≤ W)
    (hdg : decode c.code pc = .ok (.invokestatic index, 3)) (eT : T.heap = h) (hc : cells + rm.cells ≤ R.cells) (hs : slots + rm.slots ≤ R.slots)
    (k : ∀ v T' L, Qc v T'.heap L → Stand p l e R s m args below meth c T' (locs ++ L) (cells + rm.cells) (slots + rm.slots) → OWp p e below s kc ks Q (T'.setTop (mkF m (pc + 3) Ls (v.toList ++ rest)))) :
    OWp p e below s kc ks Q (T.setTop (mkF m pc Ls stk)) := by
  obtain ⟨v, _, ⟨T', L', k', n'⟩, -, X', ⟨Lc, hQ, l1, y1, z1⟩, st⟩ := Jvm.LawKit.callS X hx (y := y) hown (mvT hZ wl) (mvT hZ wst) (mvT hZ wz) (mvT hZ wc) hy (backOf (W := W) hM hZ wc wz hf hl) (g := mkF m pc Ls stk) rfl hsize (argsL := argsL) (rest := rest) hlen hstk hW hdg (fun _ _ => ⟨has, eT, hc, hs⟩)
  dsimp only [Pt.U, Pt.locs, Pt.cells, Pt.slots] at X' l1 y1 z1 st hQ
  subst l1 y1 z1
  exact own_st st (k v T' Lc hQ X')
theorem own_init (X : Stand p l e R s m args below meth c T locs cells slots) (hx : p.tables.exec = Jvm.exec) (hZ : Z.Warmed39 s.vm) {own : String} {index : Nat} {y : MethodName} {bytes : ByteArray} {maxL : Nat} {rm : Room} {Qc : Option Value → Heap → List Loc → Prop} {as' : Array Value}
    (hown : s.vm.findClass own = some m.cls) (hy1 : y.name = "<init>") (wl : (Jvm.Cond.methodLink own index y).before a0 Z = true) (wi : (Jvm.Cond.instanceMethod y).before a0 Z = true) (wz : (Jvm.Cond.initialized y.cls).before a0 Z = true) (wc : (Jvm.Cond.code y bytes maxL none).before a0 Z = true)
    (hM : MetFree l y (head1 [Jvm.Cond.code y bytes maxL none] rm) (fun a U => a = as' ∧ Z.Warmed39 U.vm ∧ U.heap = h) (fun _ _ _ _ _ => True) (fun _ U o U' => ∃ v L, o = .returned v ∧ Qc v U'.heap L ∧ FrameEnd U o U' L rm.cells rm.slots))
    (hy : y.cls ≠ "java/lang/invoke/MethodHandle" ∧ y.cls ≠ "java/lang/invoke/VarHandle") {W pc : Nat} {Ls : Array Slot} {stk argsL rest : List Value} {a : Addr} (hf : rm.frames + 1 ≤ R.frames) (hl : W + (maxL + 11) + rm.locals ≤ R.locals)
    (hsize : Ls.size = c.maxLocals) (hlen : ∀ sig, parseMethodDescriptor y.desc = some sig → argsL.length = sig.parameters.length) (hstk : stk = argsL.reverse ++ .ref a :: rest) (has : (.ref a :: argsL).toArray = as') (hW : 2 * 0 + (rest.map fun v => v.category).sum ≤ W)
    (hdg : decode c.code pc = .ok (.invokespecial index, 3)) (eT : T.heap = h) (hc : cells + rm.cells ≤ R.cells) (hs : slots + rm.slots ≤ R.slots)
    (k : ∀ v T' L, Qc v T'.heap L → Stand p l e R s m args below meth c T' (locs ++ L) (cells + rm.cells) (slots + rm.slots) → OWp p e below s kc ks Q (T'.setTop (mkF m (pc + 3) Ls (v.toList ++ rest)))) :
    OWp p e below s kc ks Q (T.setTop (mkF m pc Ls stk)) := by
  obtain ⟨v, _, ⟨T', L', k', n'⟩, -, X', ⟨Lc, hQ, l1, y1, z1⟩, st⟩ := X.specialBack hx (y := y) hy1 hown (mvT hZ wl) (mvT hZ wi) (mvT hZ wc) hy (backOf (W := W) hM hZ wc wz hf hl) (g := mkF m pc Ls stk) rfl hsize (Steps.refl _) (a := a) (argsL := argsL) (rest := rest) hlen hstk hW hdg (fun _ _ => ⟨has, eT, hc, hs⟩)
  dsimp only [Pt.U, Pt.locs, Pt.cells, Pt.slots] at X' l1 y1 z1 st hQ
  subst l1 y1 z1
  exact own_st (fun t q => st.trans q) (k v T' Lc hQ X')
theorem own_virt (X : Stand p l e R s m args below meth c T locs cells slots) (hx : p.tables.exec = Jvm.exec) (hZ : Z.Warmed39 s.vm) {own C : String} {index : Nat} {y : MethodName} {bytes : ByteArray} {maxL : Nat} {ret : Option FieldType} {rm : Room} {Qc : Option Value → Heap → List Loc → Prop} {as' : Array Value} {a : Addr}
    (hown : s.vm.findClass own = some m.cls) (wl : (Jvm.Cond.methodLink own index y).before a0 Z = true) (wd : (Jvm.Cond.declares y).before a0 Z = true) (wsel : (Jvm.Cond.selects C y y).before a0 Z = true) (wi : (Jvm.Cond.instanceMethod y).before a0 Z = true) (wz : (Jvm.Cond.initialized y.cls).before a0 Z = true) (wc : (Jvm.Cond.code y bytes maxL ret).before a0 Z = true)
    (E : Exa Z h a C)
    (hM : MetFree l y (head1 [Jvm.Cond.code y bytes maxL ret] rm) (fun a U => a = as' ∧ Z.Warmed39 U.vm ∧ U.heap = h) (fun _ _ _ _ _ => True) (fun _ U o U' => ∃ v L, o = .returned v ∧ Qc v U'.heap L ∧ FrameEnd U o U' L rm.cells rm.slots))
    (hy : y.cls ≠ "java/lang/invoke/MethodHandle" ∧ y.cls ≠ "java/lang/invoke/VarHandle") {W pc : Nat} {Ls : Array Slot} {stk argsL rest : List Value} (hf : rm.frames + 1 ≤ R.frames) (hl : W + (maxL + 11) + rm.locals ≤ R.locals)
    (hsize : Ls.size = c.maxLocals) (hlen : ∀ sig, parseMethodDescriptor y.desc = some sig → argsL.length = sig.parameters.length) (hstk : stk = argsL.reverse ++ .ref a :: rest) (has : (.ref a :: argsL).toArray = as') (hW : 2 * 0 + (rest.map fun v => v.category).sum ≤ W)
    (hdg : decode c.code pc = .ok (.invokevirtual index, 3)) (eT : T.heap = h) (hc : cells + rm.cells ≤ R.cells) (hs : slots + rm.slots ≤ R.slots)
    (k : ∀ v T' L, Qc v T'.heap L → Stand p l e R s m args below meth c T' (locs ++ L) (cells + rm.cells) (slots + rm.slots) → OWp p e below s kc ks Q (T'.setTop (mkF m (pc + 3) Ls (v.toList ++ rest)))) :
    OWp p e below s kc ks Q (T.setTop (mkF m pc Ls stk)) := by
  obtain ⟨cq, kq, qa, qb, qc⟩ := isOf hZ eT E
  obtain ⟨v, _, ⟨T', L', k', n'⟩, -, X', ⟨Lc, hQ, l1, y1, z1⟩, st⟩ := X.virtualBack hx (y := y) (z := y) hown (mvT hZ wl) (mvT hZ wd) (notFace_of_selects (args := #[]) (mvT hZ wsel)) (mvT hZ wsel) (mvT hZ wi) hy (backOf (W := W) hM hZ wc wz hf hl) qa qc (g := mkF m pc Ls stk) rfl hsize (Steps.refl _) (argsL := argsL) (rest := rest) hlen hstk hW hdg (fun _ _ => ⟨has, eT, hc, hs⟩)
  dsimp only [Pt.U, Pt.locs, Pt.cells, Pt.slots] at X' l1 y1 z1 st hQ
  subst l1 y1 z1
  exact own_st (fun t q => st.trans q) (k v T' Lc hQ X')
theorem own_len (X : Stand p l e R s m args below meth c T locs cells slots) (hx : p.tables.exec = Jvm.exec) (hZ : Z.Warmed39 s.vm) (eT : T.heap = h) {a : Addr} {k : ClassId} {ty : FieldType} {n : Int32} {vs : List Value} {dv : Value} (A : Arv Z h a k ty n vs dv)
    {pc : Nat} {Ls : Array Slot} {rest : List Value} (hd : decode c.code pc = .ok (.arraylength, 1)) :
    ∀ t, Steps p.tables e below (T.setTop (mkF m (pc + 1) Ls (.int n :: rest))) t → Steps p.tables e below (T.setTop (mkF m pc Ls (.ref a :: rest))) t := fun t q => by
  obtain ⟨cl, Ar, -, hS, hN, -, -⟩ := A
  refine X.arraylength hx (by rw [eT]; exact Ar.1) (State.isArrayOf_alike hZ.alike Ar.2.1) (g := mkF m pc Ls (.ref a :: rest)) rfl rfl hd _ ?_
  rw [len_of hS hN]; exact q
theorem own_ild (X : Stand p l e R s m args below meth c T locs cells slots) (hx : p.tables.exec = Jvm.exec) (hZ : Z.Warmed39 s.vm) (eT : T.heap = h) {a : Addr} {k : ClassId} {n : Int32} {vs : List Value} {dv : Value} (A : Arv Z h a k .int n vs dv)
    {pc : Nat} {Ls : Array Slot} {rest : List Value} {j w : Int32} (h0 : ¬ j < 0) (hlt : j < n) (hv : vs.getD j.toNatClampNeg dv = .int w) (hd : decode c.code pc = .ok (.iaload, 1)) :
    ∀ t, Steps p.tables e below (T.setTop (mkF m (pc + 1) Ls (.int w :: rest))) t → Steps p.tables e below (T.setTop (mkF m pc Ls (.int j :: .ref a :: rest))) t := fun t q => by
  obtain ⟨cl, Ar, -, hS, hN, H, -⟩ := A
  have hin := inb_of hS ⟨h0, hlt⟩
  exact X.iaload hx (j := j) (v := .int w) (by rw [eT]; exact Ar.1) (State.isArrayOf_alike hZ.alike Ar.2.1) Ar.2.2 hin (by rw [H _ (Nat.lt_of_not_le fun q => hin (Or.inr q)), hv]) (g := mkF m pc Ls (.int j :: .ref a :: rest)) rfl rfl hd _ q
theorem own_elt {a : Addr} {k : ClassId} {n : Int32} {vs : List Value} {dv : Value} (A : Arv Z h a k .int n vs dv) {j : Int32} (h0 : ¬ j < 0) (hlt : j < n) : ∃ w : Int32, vs.getD j.toNatClampNeg dv = .int w := by
  obtain ⟨cl, Ar, -, hS, hN, H, G⟩ := A
  have hin := inb_of hS ⟨h0, hlt⟩
  have g := G _ (Nat.lt_of_not_le fun q => hin (Or.inr q))
  cases hv : vs.getD j.toNatClampNeg dv <;> rw [hv] at g <;> first | exact ⟨_, rfl⟩ | cases g
theorem own_ist (X : Stand p l e R s m args below meth c T locs cells slots) (hx : p.tables.exec = Jvm.exec) (hZ : Z.Warmed39 s.vm) (eT : T.heap = h) {a : Addr} {k : ClassId} {n : Int32} {vs : List Value} {dv : Value} (A : Arv Z h a k .int n vs dv)
    {pc : Nat} {Ls : Array Slot} {rest : List Value} {j x : Int32} (i : Nat) (hj : j.toNatClampNeg = i) (h0 : ¬ j < 0) (hlt : j < n) (hi : i < vs.length) (hd : decode c.code pc = .ok (.iastore, 1)) :
    ∃ T' h', Stand p l e R s m args below meth c T' (locs ++ [⟨a, j.toNatClampNeg⟩]) cells slots ∧ T'.heap = h' ∧ Wr h h' a j.toNatClampNeg (.int x) ∧ Arv Z h' a k .int n (vs.set i (.int x)) dv ∧
      ∀ t, Steps p.tables e below (T'.setTop (mkF m (pc + 1) Ls rest)) t → Steps p.tables e below (T.setTop (mkF m pc Ls (.int x :: .int j :: .ref a :: rest))) t := by
  obtain ⟨cl, Ar, q1, hS, hN, H, G⟩ := A
  obtain ⟨T', h', X', e', W', st⟩ := stI X hx hZ eT Ar (j := j) (x := x) (inb_of hS ⟨h0, hlt⟩) (g := mkF m pc Ls (.int x :: .int j :: .ref a :: rest)) rfl rfl hd
  exact ⟨T', h', X', e', W', Arv.set Ar q1 hS hN H G rfl W' i hj hi, st⟩
theorem own_ald (X : Stand p l e R s m args below meth c T locs cells slots) (hx : p.tables.exec = Jvm.exec) (hZ : Z.Warmed39 s.vm) (eT : T.heap = h) {a : Addr} {k : ClassId} {C : String} {n : Int32} {vs : List Value} {dv : Value} (A : Arv Z h a k (.object C) n vs dv)
    {pc : Nat} {Ls : Array Slot} {rest : List Value} {j : Int32} {w : Addr} (h0 : ¬ j < 0) (hlt : j < n) (hv : vs.getD j.toNatClampNeg dv = .ref w) (hd : decode c.code pc = .ok (.aaload, 1)) :
    ∀ t, Steps p.tables e below (T.setTop (mkF m (pc + 1) Ls (.ref w :: rest))) t → Steps p.tables e below (T.setTop (mkF m pc Ls (.int j :: .ref a :: rest))) t := fun t q => by
  obtain ⟨cl, Ar, -, hS, hN, H, -⟩ := A
  have hin := inb_of hS ⟨h0, hlt⟩
  exact X.aaload hx (j := j) (v := .ref w) (by rw [eT]; exact Ar.1) (State.isArrayOf_alike hZ.alike Ar.2.1) rfl Ar.2.2 hin (by rw [H _ (Nat.lt_of_not_le fun q => hin (Or.inr q)), hv]) (g := mkF m pc Ls (.int j :: .ref a :: rest)) rfl rfl hd _ q
theorem own_ast (X : Stand p l e R s m args below meth c T locs cells slots) (hx : p.tables.exec = Jvm.exec) (hZ : Z.Warmed39 s.vm) (eT : T.heap = h) {a : Addr} {k : ClassId} {C : String} {n : Int32} {vs : List Value} {dv : Value} (A : Arv Z h a k (.object C) n vs dv) (O : Ovr Z k C) {y : Addr} (I : Ins Z h y C true)
    {pc : Nat} {Ls : Array Slot} {rest : List Value} {j : Int32} (i : Nat) (hj : j.toNatClampNeg = i) (h0 : ¬ j < 0) (hlt : j < n) (hi : i < vs.length) (hd : decode c.code pc = .ok (.aastore, 1)) :
    ∃ T' h', Stand p l e R s m args below meth c T' (locs ++ [⟨a, j.toNatClampNeg⟩]) cells slots ∧ T'.heap = h' ∧ Wr h h' a j.toNatClampNeg (.ref y) ∧ Arv Z h' a k (.object C) n (vs.set i (.ref y)) dv ∧
      ∀ t, Steps p.tables e below (T'.setTop (mkF m (pc + 1) Ls rest)) t → Steps p.tables e below (T.setTop (mkF m pc Ls (.ref y :: .int j :: .ref a :: rest))) t := by
  obtain ⟨cl, Ar, q1, hS, hN, H, G⟩ := A
  obtain ⟨T', h', X', e', W', st⟩ := stR X hx hZ eT Ar (j := j) (v := .ref y) (inb_of hS ⟨h0, hlt⟩) rfl (Sto.of Ar (q1 ▸ O) I) (g := mkF m pc Ls (.ref y :: .int j :: .ref a :: rest)) rfl rfl hd
  exact ⟨T', h', X', e', W', Arv.set Ar q1 hS hN H G rfl W' i hj hi, st⟩
theorem own_kext {h h' : Heap} (K : Keep h h' []) : Ext h h' := ⟨K.1, fun a c q => K.2.1 a c q (by simp)⟩
end OwnKit

/-! the plain law: what both sides compute -/
abbrev OIn (c lo hi : Int32) : Prop := ¬ c < lo ∧ ¬ hi < c
abbrev OChar (c x : Int32) : Prop := OIn c 32 55295 ∨ OIn c 57344 65533 ∨ OIn c 65536 1114111 ∨ (x = 0 ∧ (c = 9 ∨ c = 10 ∨ c = 13)) ∨ (¬ x = 0 ∧ OIn c 1 31)
def oIn (c lo hi : Int32) : Int32 := if OIn c lo hi then 1 else 0
def oChar (c x : Int32) : Int32 := if OChar c x then 1 else 0
theorem oIn_1 {c lo hi : Int32} : oIn c lo hi = 0 ↔ ¬ OIn c lo hi := by unfold oIn; split <;> simp_all

theorem own_idx (p2 : Int32) : ¬ (((p2.toUInt32 >>> ((1 : Int32) &&& 31).toUInt32).toInt32) % (14 : Int32)) < 0 ∧ (((p2.toUInt32 >>> ((1 : Int32) &&& 31).toUInt32).toInt32) % (14 : Int32)) < 14 := by
  have h1 := c_iushr p2 1 1 (by decide) (by decide)
  have h2 := (c_irem ((p2.toUInt32 >>> ((1 : Int32) &&& 31).toUInt32).toInt32) 14 14 (by decide)).1 (by rw [h1]; omega)
  simp only [Int32.lt_iff_toInt_lt, Int32.reduceToInt]
  omega

theorem own_pd0 : parseMethodDescriptor "(III)Z" = some ⟨[.int, .int, .int], some .boolean⟩ := by decide +kernel
theorem own_pd1 : parseMethodDescriptor "(IZ)Z" = some ⟨[.int, .boolean], some .boolean⟩ := by decide +kernel
theorem d3_0 : decode method_2_code 0 = .ok (.iload_n 1, 1) := by decide +kernel
theorem d3_1 : decode method_2_code 1 = .ok (.iload_n 0, 1) := by decide +kernel
theorem d3_2 : decode method_2_code 2 = .ok (.if_icmp .gt 12, 3) := by decide +kernel
theorem d3_5 : decode method_2_code 5 = .ok (.iload_n 0, 1) := by decide +kernel
theorem d3_6 : decode method_2_code 6 = .ok (.iload_n 2, 1) := by decide +kernel
theorem d3_7 : decode method_2_code 7 = .ok (.if_icmp .gt 7, 3) := by decide +kernel
theorem d3_10 : decode method_2_code 10 = .ok (.iconst 1, 1) := by decide +kernel
theorem d3_11 : decode method_2_code 11 = .ok (.goto 4, 3) := by decide +kernel
theorem d3_14 : decode method_2_code 14 = .ok (.iconst 0, 1) := by decide +kernel
theorem d3_15 : decode method_2_code 15 = .ok (.ireturn, 1) := by decide +kernel
def Q3 (p1 p2 p3 : Int32) (h0 : Heap) (n0 : Nat) (v : Option Value) (h : Heap) (L : List Loc) : Prop := v = some (.int (oIn p1 p2 p3)) ∧ Fr n0 L ∧ h = h0
theorem ef_3 (m : MethodId) (x0 : Int32) (x1 : Int32) (x2 : Int32) : entryFrame m #[(.int x0), (.int x1), (.int x2)] 3 = mkF m 0 #[.val (.int x0), .val (.int x1), .val (.int x2)] [] := by first | (simp [entryFrame, mkF, argsToLocals, Value.category]; done) | rfl
theorem pn_3 : plainName "com/example/ascribe/ascribe/XmlNamesIsCharPinLaw" = true := by first | (simp [plainName, overriddenIn]; done) | decide +kernel
set_option maxRecDepth 65536 in
set_option maxHeartbeats 40000000 in
theorem rm3 (l : Launch) (Z : State) (a0 : Array Value) (hw : ∀ d ∈ tables_1, d.before a0 Z = true) (ws : List Jvm.Cond) (p1 p2 p3 : Int32) (h0 : Heap) (n0 : Nat) (Z0 : n0 ≤ h0.size)  :
    MetFree l (⟨"com/example/ascribe/ascribe/XmlNamesIsCharPinLaw", "in", "(III)Z"⟩ : MethodName) (head1 (Jvm.Cond.code (⟨"com/example/ascribe/ascribe/XmlNamesIsCharPinLaw", "in", "(III)Z"⟩ : MethodName) method_2_code 3 (some .boolean) :: ws) ({ frames := 0, cells := 0, slots := 0, locals := 0 } : Room)) (fun a U => a = #[(.int p1), (.int p2), (.int p3)] ∧ Z.Warmed39 U.vm ∧ U.heap = h0) (fun _ _ _ _ _ => True) (fun _ U o U' => ∃ v L, o = .returned v ∧ Q3 p1 p2 p3 h0 n0 v U'.heap L ∧ FrameEnd U o U' L ({ frames := 0, cells := 0, slots := 0, locals := 0 } : Room).cells ({ frames := 0, cells := 0, slots := 0, locals := 0 } : Room).slots) := by
  refine MetFree.of_bodySF (plainFor_of_name pn_3) hisR ?_
  intro p e s m args below meth c s₁ Bd hml0 hP hK
  obtain ⟨rfl, hZ, hh⟩ := hP
  have hx := Bd.exec
  have hby := Bd.bytes
  have hml : c.maxLocals = 3 := hml0
  have hown : s.vm.findClass "com/example/ascribe/ascribe/XmlNamesIsCharPinLaw" = some m.cls := findClass_of_methodNamed Bd.named
  have hnm := (name_of_methodNamed Bd.named Bd.method).1
  have X0 : Stand p l e ({ frames := 0, cells := 0, slots := 0, locals := 0 } : Room) s m #[(.int p1), (.int p2), (.int p3)] below meth c s₁ [] 0 0 := Stand.of_body Bd
  have e0 : s₁.heap = h0 := by rw [← hh, Bd.state]; rfl
  have N0 := Fr.nil n0
  suffices hgoal : OWp p e below s ({ frames := 0, cells := 0, slots := 0, locals := 0 } : Room).cells ({ frames := 0, cells := 0, slots := 0, locals := 0 } : Room).slots (Q3 p1 p2 p3 h0 n0) (s₁.setTop (mkF m 0 #[.val (.int p1), .val (.int p2), .val (.int p3)] [])) by
    rw [← ef_3] at hgoal; exact hgoal
  refine own_st (F' := s₁.setTop (mkF m 1 #[.val (.int p1), .val (.int p2), .val (.int p3)] [(.int p2)])) (fun t_ kk => XS.iloadN X0.here hx rfl (hb hby d3_0) rfl kk) ?_
  refine own_st (F' := s₁.setTop (mkF m 2 #[.val (.int p1), .val (.int p2), .val (.int p3)] [(.int p1), (.int p2)])) (fun t_ kk => XS.iloadN X0.here hx rfl (hb hby d3_1) rfl kk) ?_
  by_cases hc1 : p1 < p2
  · -- pc 2: p1 < p2
    refine own_st (F' := s₁.setTop (mkF m 14 #[.val (.int p1), .val (.int p2), .val (.int p3)] [])) (fun t_ kk => XS.icmpYes X0.here hx rfl (pc0 := 2) (pc' := 14) rfl (hb hby d3_2) rfl (tlt hc1).2.2.1 (by decide) (by decide) kk) ?_
    refine own_st (F' := s₁.setTop (mkF m 15 #[.val (.int p1), .val (.int p2), .val (.int p3)] [(.int (0 : Int32))])) (fun t_ kk => XS.iconst X0.here hx rfl (hb hby d3_14) kk) ?_
    refine own_fin X0 (some (.int (0 : Int32))) (fun h => by rw [Bd.returns] at h; cases h) Bd.notSynchronized (by decide) (by decide) (fun fs hr => retN X0 hx (t := .boolean) Bd.returns (by simp) (hb hby d3_15) hr) ?_
    rw [e0]
    exact ⟨by simp [oIn, OIn, hc1], N0, rfl⟩
  · -- pc 2: not p1 < p2
    refine own_st (F' := s₁.setTop (mkF m 5 #[.val (.int p1), .val (.int p2), .val (.int p3)] [])) (fun t_ kk => XS.icmpNo X0.here hx rfl (hb hby d3_2) rfl (flt hc1).2.2.1 kk) ?_
    refine own_st (F' := s₁.setTop (mkF m 6 #[.val (.int p1), .val (.int p2), .val (.int p3)] [(.int p1)])) (fun t_ kk => XS.iloadN X0.here hx rfl (hb hby d3_5) rfl kk) ?_
    refine own_st (F' := s₁.setTop (mkF m 7 #[.val (.int p1), .val (.int p2), .val (.int p3)] [(.int p3), (.int p1)])) (fun t_ kk => XS.iloadN X0.here hx rfl (hb hby d3_6) rfl kk) ?_
    by_cases hc2 : p3 < p1
    · -- pc 7: p3 < p1
      refine own_st (F' := s₁.setTop (mkF m 14 #[.val (.int p1), .val (.int p2), .val (.int p3)] [])) (fun t_ kk => XS.icmpYes X0.here hx rfl (pc0 := 7) (pc' := 14) rfl (hb hby d3_7) rfl (tlt hc2).2.2.1 (by decide) (by decide) kk) ?_
      refine own_st (F' := s₁.setTop (mkF m 15 #[.val (.int p1), .val (.int p2), .val (.int p3)] [(.int (0 : Int32))])) (fun t_ kk => XS.iconst X0.here hx rfl (hb hby d3_14) kk) ?_
      refine own_fin X0 (some (.int (0 : Int32))) (fun h => by rw [Bd.returns] at h; cases h) Bd.notSynchronized (by decide) (by decide) (fun fs hr => retN X0 hx (t := .boolean) Bd.returns (by simp) (hb hby d3_15) hr) ?_
      rw [e0]
      exact ⟨by simp [oIn, OIn, hc1, hc2], N0, rfl⟩
    · -- pc 7: not p3 < p1
      refine own_st (F' := s₁.setTop (mkF m 10 #[.val (.int p1), .val (.int p2), .val (.int p3)] [])) (fun t_ kk => XS.icmpNo X0.here hx rfl (hb hby d3_7) rfl (flt hc2).2.2.1 kk) ?_
      refine own_st (F' := s₁.setTop (mkF m 11 #[.val (.int p1), .val (.int p2), .val (.int p3)] [(.int (1 : Int32))])) (fun t_ kk => XS.iconst X0.here hx rfl (hb hby d3_10) kk) ?_
      refine own_st (F' := s₁.setTop (mkF m 15 #[.val (.int p1), .val (.int p2), .val (.int p3)] [(.int (1 : Int32))])) (fun t_ kk => XS.goto X0.here hx rfl (pc0 := 11) (pc' := 15) rfl (hb hby d3_11) (by decide) (by decide) kk) ?_
      refine own_fin X0 (some (.int (1 : Int32))) (fun h => by rw [Bd.returns] at h; cases h) Bd.notSynchronized (by decide) (by decide) (fun fs hr => retN X0 hx (t := .boolean) Bd.returns (by simp) (hb hby d3_15) hr) ?_
      rw [e0]
      exact ⟨by simp [oIn, OIn, hc1, hc2], N0, rfl⟩
theorem d1_0 : decode prog_245_method_15_code 0 = .ok (.iload_n 1, 1) := by decide +kernel
theorem d1_1 : decode prog_245_method_15_code 1 = .ok (.ifCond .eq 16, 3) := by decide +kernel
theorem d1_4 : decode prog_245_method_15_code 4 = .ok (.iload_n 0, 1) := by decide +kernel
theorem d1_5 : decode prog_245_method_15_code 5 = .ok (.iconst 1, 1) := by decide +kernel
theorem d1_6 : decode prog_245_method_15_code 6 = .ok (.if_icmp .lt 7, 3) := by decide +kernel
theorem d1_9 : decode prog_245_method_15_code 9 = .ok (.iconst 1, 1) := by decide +kernel
theorem d1_10 : decode prog_245_method_15_code 10 = .ok (.goto 30, 3) := by decide +kernel
theorem d1_13 : decode prog_245_method_15_code 13 = .ok (.iconst 0, 1) := by decide +kernel
theorem d1_14 : decode prog_245_method_15_code 14 = .ok (.goto 26, 3) := by decide +kernel
theorem d1_17 : decode prog_245_method_15_code 17 = .ok (.iload_n 0, 1) := by decide +kernel
theorem d1_18 : decode prog_245_method_15_code 18 = .ok (.bipush 9, 2) := by decide +kernel
theorem d1_20 : decode prog_245_method_15_code 20 = .ok (.if_icmp .eq 15, 3) := by decide +kernel
theorem d1_23 : decode prog_245_method_15_code 23 = .ok (.iload_n 0, 1) := by decide +kernel
theorem d1_24 : decode prog_245_method_15_code 24 = .ok (.bipush 10, 2) := by decide +kernel
theorem d1_26 : decode prog_245_method_15_code 26 = .ok (.if_icmp .eq 9, 3) := by decide +kernel
theorem d1_29 : decode prog_245_method_15_code 29 = .ok (.iload_n 0, 1) := by decide +kernel
theorem d1_30 : decode prog_245_method_15_code 30 = .ok (.bipush 13, 2) := by decide +kernel
theorem d1_32 : decode prog_245_method_15_code 32 = .ok (.if_icmp .ne 7, 3) := by decide +kernel
theorem d1_35 : decode prog_245_method_15_code 35 = .ok (.iconst 1, 1) := by decide +kernel
theorem d1_36 : decode prog_245_method_15_code 36 = .ok (.goto 4, 3) := by decide +kernel
theorem d1_39 : decode prog_245_method_15_code 39 = .ok (.iconst 0, 1) := by decide +kernel
theorem d1_40 : decode prog_245_method_15_code 40 = .ok (.istore_n 2, 1) := by decide +kernel
theorem d1_41 : decode prog_245_method_15_code 41 = .ok (.iload_n 0, 1) := by decide +kernel
theorem d1_42 : decode prog_245_method_15_code 42 = .ok (.bipush 32, 2) := by decide +kernel
theorem d1_44 : decode prog_245_method_15_code 44 = .ok (.if_icmp .ge 7, 3) := by decide +kernel
theorem d1_47 : decode prog_245_method_15_code 47 = .ok (.iload_n 2, 1) := by decide +kernel
theorem d1_48 : decode prog_245_method_15_code 48 = .ok (.goto 38, 3) := by decide +kernel
theorem d1_51 : decode prog_245_method_15_code 51 = .ok (.iload_n 0, 1) := by decide +kernel
theorem d1_52 : decode prog_245_method_15_code 52 = .ok (.ldc 113, 2) := by decide +kernel
theorem d1_54 : decode prog_245_method_15_code 54 = .ok (.if_icmp .le 27, 3) := by decide +kernel
theorem d1_57 : decode prog_245_method_15_code 57 = .ok (.iload_n 0, 1) := by decide +kernel
theorem d1_58 : decode prog_245_method_15_code 58 = .ok (.ldc 114, 2) := by decide +kernel
theorem d1_60 : decode prog_245_method_15_code 60 = .ok (.if_icmp .lt 9, 3) := by decide +kernel
theorem d1_63 : decode prog_245_method_15_code 63 = .ok (.iload_n 0, 1) := by decide +kernel
theorem d1_64 : decode prog_245_method_15_code 64 = .ok (.ldc 115, 2) := by decide +kernel
theorem d1_66 : decode prog_245_method_15_code 66 = .ok (.if_icmp .le 15, 3) := by decide +kernel
theorem d1_69 : decode prog_245_method_15_code 69 = .ok (.iload_n 0, 1) := by decide +kernel
theorem d1_70 : decode prog_245_method_15_code 70 = .ok (.ldc 116, 2) := by decide +kernel
theorem d1_72 : decode prog_245_method_15_code 72 = .ok (.if_icmp .lt 13, 3) := by decide +kernel
theorem d1_75 : decode prog_245_method_15_code 75 = .ok (.iload_n 0, 1) := by decide +kernel
theorem d1_76 : decode prog_245_method_15_code 76 = .ok (.ldc 117, 2) := by decide +kernel
theorem d1_78 : decode prog_245_method_15_code 78 = .ok (.if_icmp .gt 7, 3) := by decide +kernel
theorem d1_81 : decode prog_245_method_15_code 81 = .ok (.iconst 1, 1) := by decide +kernel
theorem d1_82 : decode prog_245_method_15_code 82 = .ok (.goto 4, 3) := by decide +kernel
theorem d1_85 : decode prog_245_method_15_code 85 = .ok (.iconst 0, 1) := by decide +kernel
theorem d1_86 : decode prog_245_method_15_code 86 = .ok (.ireturn, 1) := by decide +kernel
def Q1 (p1 p2 : Int32) (h0 : Heap) (n0 : Nat) (v : Option Value) (h : Heap) (L : List Loc) : Prop := v = some (.int (oChar p1 p2)) ∧ Fr n0 L ∧ h = h0
theorem ef_1 (m : MethodId) (x0 : Int32) (x1 : Int32) : entryFrame m #[(.int x0), (.int x1)] 3 = mkF m 0 #[.val (.int x0), .val (.int x1), .unset] [] := by first | (simp [entryFrame, mkF, argsToLocals, Value.category]; done) | rfl
theorem pn_1 : plainName "com/example/ascribe/ascribe/XmlNames" = true := by first | (simp [plainName, overriddenIn]; done) | decide +kernel
set_option maxRecDepth 65536 in
set_option maxHeartbeats 40000000 in
theorem rm1 (l : Launch) (Z : State) (a0 : Array Value) (hw : ∀ d ∈ tables_1, d.before a0 Z = true) (ws : List Jvm.Cond) (p1 p2 : Int32) (h0 : Heap) (n0 : Nat) (Z0 : n0 ≤ h0.size)  :
    MetFree l (⟨"com/example/ascribe/ascribe/XmlNames", "isChar", "(IZ)Z"⟩ : MethodName) (head1 (Jvm.Cond.code (⟨"com/example/ascribe/ascribe/XmlNames", "isChar", "(IZ)Z"⟩ : MethodName) prog_245_method_15_code 3 (some .boolean) :: ws) ({ frames := 0, cells := 0, slots := 0, locals := 0 } : Room)) (fun a U => a = #[(.int p1), (.int p2)] ∧ Z.Warmed39 U.vm ∧ U.heap = h0) (fun _ _ _ _ _ => True) (fun _ U o U' => ∃ v L, o = .returned v ∧ Q1 p1 p2 h0 n0 v U'.heap L ∧ FrameEnd U o U' L ({ frames := 0, cells := 0, slots := 0, locals := 0 } : Room).cells ({ frames := 0, cells := 0, slots := 0, locals := 0 } : Room).slots) := by
  refine MetFree.of_bodySF (plainFor_of_name pn_1) hisR ?_
  intro p e s m args below meth c s₁ Bd hml0 hP hK
  obtain ⟨rfl, hZ, hh⟩ := hP
  have hx := Bd.exec
  have hby := Bd.bytes
  have hml : c.maxLocals = 3 := hml0
  have hown : s.vm.findClass "com/example/ascribe/ascribe/XmlNames" = some m.cls := findClass_of_methodNamed Bd.named
  have hnm := (name_of_methodNamed Bd.named Bd.method).1
  have X0 : Stand p l e ({ frames := 0, cells := 0, slots := 0, locals := 0 } : Room) s m #[(.int p1), (.int p2)] below meth c s₁ [] 0 0 := Stand.of_body Bd
  have e0 : s₁.heap = h0 := by rw [← hh, Bd.state]; rfl
  have N0 := Fr.nil n0
  suffices hgoal : OWp p e below s ({ frames := 0, cells := 0, slots := 0, locals := 0 } : Room).cells ({ frames := 0, cells := 0, slots := 0, locals := 0 } : Room).slots (Q1 p1 p2 h0 n0) (s₁.setTop (mkF m 0 #[.val (.int p1), .val (.int p2), .unset] [])) by
    rw [← ef_1] at hgoal; exact hgoal
  refine own_st (F' := s₁.setTop (mkF m 1 #[.val (.int p1), .val (.int p2), .unset] [(.int p2)])) (fun t_ kk => XS.iloadN X0.here hx rfl (hb hby d1_0) rfl kk) ?_
  by_cases hc1 : p2 = (0 : Int32)
  · -- pc 1: p2 = (0 : Int32)
    refine own_st (F' := s₁.setTop (mkF m 17 #[.val (.int p1), .val (.int p2), .unset] [])) (fun t_ kk => XS.ifYes X0.here hx rfl (pc0 := 1) (pc' := 17) rfl (hb hby d1_1) rfl ((if0 _ _).trans (teq hc1).1) (by decide) (by decide) kk) ?_
    refine own_st (F' := s₁.setTop (mkF m 18 #[.val (.int p1), .val (.int p2), .unset] [(.int p1)])) (fun t_ kk => XS.iloadN X0.here hx rfl (hb hby d1_17) rfl kk) ?_
    refine own_st (F' := s₁.setTop (mkF m 20 #[.val (.int p1), .val (.int p2), .unset] [(.int (9 : Int32)), (.int p1)])) (fun t_ kk => XS.bipush X0.here hx rfl (hb hby d1_18) kk) ?_
    by_cases hc2 : p1 = (9 : Int32)
    · -- pc 20: p1 = (9 : Int32)
      refine own_st (F' := s₁.setTop (mkF m 35 #[.val (.int p1), .val (.int p2), .unset] [])) (fun t_ kk => XS.icmpYes X0.here hx rfl (pc0 := 20) (pc' := 35) rfl (hb hby d1_20) rfl (teq hc2).1 (by decide) (by decide) kk) ?_
      refine own_st (F' := s₁.setTop (mkF m 36 #[.val (.int p1), .val (.int p2), .unset] [(.int (1 : Int32))])) (fun t_ kk => XS.iconst X0.here hx rfl (hb hby d1_35) kk) ?_
      refine own_st (F' := s₁.setTop (mkF m 40 #[.val (.int p1), .val (.int p2), .unset] [(.int (1 : Int32))])) (fun t_ kk => XS.goto X0.here hx rfl (pc0 := 36) (pc' := 40) rfl (hb hby d1_36) (by decide) (by decide) kk) ?_
      refine own_st (F' := s₁.setTop (mkF m 41 #[.val (.int p1), .val (.int p2), .val (.int (1 : Int32))] [])) (fun t_ kk => XS.istoreN X0.here hx rfl (hb hby d1_40) rfl (l' := #[.val (.int p1), .val (.int p2), .val (.int (1 : Int32))]) rfl kk) ?_
      refine own_st (F' := s₁.setTop (mkF m 42 #[.val (.int p1), .val (.int p2), .val (.int (1 : Int32))] [(.int p1)])) (fun t_ kk => XS.iloadN X0.here hx rfl (hb hby d1_41) rfl kk) ?_
      refine own_st (F' := s₁.setTop (mkF m 44 #[.val (.int p1), .val (.int p2), .val (.int (1 : Int32))] [(.int (32 : Int32)), (.int p1)])) (fun t_ kk => XS.bipush X0.here hx rfl (hb hby d1_42) kk) ?_
      by_cases hc3 : p1 < (32 : Int32)
      · -- pc 44: p1 < (32 : Int32)
        refine own_st (F' := s₁.setTop (mkF m 47 #[.val (.int p1), .val (.int p2), .val (.int (1 : Int32))] [])) (fun t_ kk => XS.icmpNo X0.here hx rfl (hb hby d1_44) rfl (tlt hc3).2.1 kk) ?_
        refine own_st (F' := s₁.setTop (mkF m 48 #[.val (.int p1), .val (.int p2), .val (.int (1 : Int32))] [(.int (1 : Int32))])) (fun t_ kk => XS.iloadN X0.here hx rfl (hb hby d1_47) rfl kk) ?_
        refine own_st (F' := s₁.setTop (mkF m 86 #[.val (.int p1), .val (.int p2), .val (.int (1 : Int32))] [(.int (1 : Int32))])) (fun t_ kk => XS.goto X0.here hx rfl (pc0 := 48) (pc' := 86) rfl (hb hby d1_48) (by decide) (by decide) kk) ?_
        refine own_fin X0 (some (.int (1 : Int32))) (fun h => by rw [Bd.returns] at h; cases h) Bd.notSynchronized (by decide) (by decide) (fun fs hr => retN X0 hx (t := .boolean) Bd.returns (by simp) (hb hby d1_86) hr) ?_
        rw [e0]
        have q : OChar p1 p2 := by clear hw; simp only [OChar, OIn, Int32.lt_iff_toInt_lt, ← Int32.toInt_inj, Int32.reduceToInt] at *; omega
        exact ⟨by rw [oChar, if_pos q], N0, rfl⟩
      · -- pc 44: not p1 < (32 : Int32)
        refine own_st (F' := s₁.setTop (mkF m 51 #[.val (.int p1), .val (.int p2), .val (.int (1 : Int32))] [])) (fun t_ kk => XS.icmpYes X0.here hx rfl (pc0 := 44) (pc' := 51) rfl (hb hby d1_44) rfl (flt hc3).2.1 (by decide) (by decide) kk) ?_
        refine own_st (F' := s₁.setTop (mkF m 52 #[.val (.int p1), .val (.int p2), .val (.int (1 : Int32))] [(.int p1)])) (fun t_ kk => XS.iloadN X0.here hx rfl (hb hby d1_51) rfl kk) ?_
        refine own_st (F' := s₁.setTop (mkF m 54 #[.val (.int p1), .val (.int p2), .val (.int (1 : Int32))] [(.int (55295 : Int32)), (.int p1)])) (X0.ldcInt hx hown (mvT hZ (hw _ (List.mem_of_getElem? (i := 19) rfl))) (g := (mkF m 52 #[.val (.int p1), .val (.int p2), .val (.int (1 : Int32))] [(.int p1)])) rfl (hb hby d1_52)) ?_
        by_cases hc4 : (55295 : Int32) < p1
        · -- pc 54: (55295 : Int32) < p1
          refine own_st (F' := s₁.setTop (mkF m 57 #[.val (.int p1), .val (.int p2), .val (.int (1 : Int32))] [])) (fun t_ kk => XS.icmpNo X0.here hx rfl (hb hby d1_54) rfl (tlt hc4).2.2.2 kk) ?_
          refine own_st (F' := s₁.setTop (mkF m 58 #[.val (.int p1), .val (.int p2), .val (.int (1 : Int32))] [(.int p1)])) (fun t_ kk => XS.iloadN X0.here hx rfl (hb hby d1_57) rfl kk) ?_
          refine own_st (F' := s₁.setTop (mkF m 60 #[.val (.int p1), .val (.int p2), .val (.int (1 : Int32))] [(.int (57344 : Int32)), (.int p1)])) (X0.ldcInt hx hown (mvT hZ (hw _ (List.mem_of_getElem? (i := 20) rfl))) (g := (mkF m 58 #[.val (.int p1), .val (.int p2), .val (.int (1 : Int32))] [(.int p1)])) rfl (hb hby d1_58)) ?_
          by_cases hc5 : p1 < (57344 : Int32)
          · -- pc 60: p1 < (57344 : Int32)
            refine own_st (F' := s₁.setTop (mkF m 69 #[.val (.int p1), .val (.int p2), .val (.int (1 : Int32))] [])) (fun t_ kk => XS.icmpYes X0.here hx rfl (pc0 := 60) (pc' := 69) rfl (hb hby d1_60) rfl (tlt hc5).1 (by decide) (by decide) kk) ?_
            refine own_st (F' := s₁.setTop (mkF m 70 #[.val (.int p1), .val (.int p2), .val (.int (1 : Int32))] [(.int p1)])) (fun t_ kk => XS.iloadN X0.here hx rfl (hb hby d1_69) rfl kk) ?_
            refine own_st (F' := s₁.setTop (mkF m 72 #[.val (.int p1), .val (.int p2), .val (.int (1 : Int32))] [(.int (65536 : Int32)), (.int p1)])) (X0.ldcInt hx hown (mvT hZ (hw _ (List.mem_of_getElem? (i := 22) rfl))) (g := (mkF m 70 #[.val (.int p1), .val (.int p2), .val (.int (1 : Int32))] [(.int p1)])) rfl (hb hby d1_70)) ?_
            by_cases hc6 : p1 < (65536 : Int32)
            · -- pc 72: p1 < (65536 : Int32)
              refine own_st (F' := s₁.setTop (mkF m 85 #[.val (.int p1), .val (.int p2), .val (.int (1 : Int32))] [])) (fun t_ kk => XS.icmpYes X0.here hx rfl (pc0 := 72) (pc' := 85) rfl (hb hby d1_72) rfl (tlt hc6).1 (by decide) (by decide) kk) ?_
              refine own_st (F' := s₁.setTop (mkF m 86 #[.val (.int p1), .val (.int p2), .val (.int (1 : Int32))] [(.int (0 : Int32))])) (fun t_ kk => XS.iconst X0.here hx rfl (hb hby d1_85) kk) ?_
              refine own_fin X0 (some (.int (0 : Int32))) (fun h => by rw [Bd.returns] at h; cases h) Bd.notSynchronized (by decide) (by decide) (fun fs hr => retN X0 hx (t := .boolean) Bd.returns (by simp) (hb hby d1_86) hr) ?_
              rw [e0]
              have q : ¬ OChar p1 p2 := by clear hw; simp only [OChar, OIn, Int32.lt_iff_toInt_lt, ← Int32.toInt_inj, Int32.reduceToInt] at *; omega
              exact ⟨by rw [oChar, if_neg q], N0, rfl⟩
            · -- pc 72: not p1 < (65536 : Int32)
              refine own_st (F' := s₁.setTop (mkF m 75 #[.val (.int p1), .val (.int p2), .val (.int (1 : Int32))] [])) (fun t_ kk => XS.icmpNo X0.here hx rfl (hb hby d1_72) rfl (flt hc6).1 kk) ?_
              refine own_st (F' := s₁.setTop (mkF m 76 #[.val (.int p1), .val (.int p2), .val (.int (1 : Int32))] [(.int p1)])) (fun t_ kk => XS.iloadN X0.here hx rfl (hb hby d1_75) rfl kk) ?_
              refine own_st (F' := s₁.setTop (mkF m 78 #[.val (.int p1), .val (.int p2), .val (.int (1 : Int32))] [(.int (1114111 : Int32)), (.int p1)])) (X0.ldcInt hx hown (mvT hZ (hw _ (List.mem_of_getElem? (i := 23) rfl))) (g := (mkF m 76 #[.val (.int p1), .val (.int p2), .val (.int (1 : Int32))] [(.int p1)])) rfl (hb hby d1_76)) ?_
              by_cases hc7 : (1114111 : Int32) < p1
              · -- pc 78: (1114111 : Int32) < p1
                refine own_st (F' := s₁.setTop (mkF m 85 #[.val (.int p1), .val (.int p2), .val (.int (1 : Int32))] [])) (fun t_ kk => XS.icmpYes X0.here hx rfl (pc0 := 78) (pc' := 85) rfl (hb hby d1_78) rfl (tlt hc7).2.2.1 (by decide) (by decide) kk) ?_
                refine own_st (F' := s₁.setTop (mkF m 86 #[.val (.int p1), .val (.int p2), .val (.int (1 : Int32))] [(.int (0 : Int32))])) (fun t_ kk => XS.iconst X0.here hx rfl (hb hby d1_85) kk) ?_
                refine own_fin X0 (some (.int (0 : Int32))) (fun h => by rw [Bd.returns] at h; cases h) Bd.notSynchronized (by decide) (by decide) (fun fs hr => retN X0 hx (t := .boolean) Bd.returns (by simp) (hb hby d1_86) hr) ?_
                rw [e0]
                have q : ¬ OChar p1 p2 := by clear hw; simp only [OChar, OIn, Int32.lt_iff_toInt_lt, ← Int32.toInt_inj, Int32.reduceToInt] at *; omega
                exact ⟨by rw [oChar, if_neg q], N0, rfl⟩
              · -- pc 78: not (1114111 : Int32) < p1
                refine own_st (F' := s₁.setTop (mkF m 81 #[.val (.int p1), .val (.int p2), .val (.int (1 : Int32))] [])) (fun t_ kk => XS.icmpNo X0.here hx rfl (hb hby d1_78) rfl (flt hc7).2.2.1 kk) ?_
                refine own_st (F' := s₁.setTop (mkF m 82 #[.val (.int p1), .val (.int p2), .val (.int (1 : Int32))] [(.int (1 : Int32))])) (fun t_ kk => XS.iconst X0.here hx rfl (hb hby d1_81) kk) ?_
                refine own_st (F' := s₁.setTop (mkF m 86 #[.val (.int p1), .val (.int p2), .val (.int (1 : Int32))] [(.int (1 : Int32))])) (fun t_ kk => XS.goto X0.here hx rfl (pc0 := 82) (pc' := 86) rfl (hb hby d1_82) (by decide) (by decide) kk) ?_
                refine own_fin X0 (some (.int (1 : Int32))) (fun h => by rw [Bd.returns] at h; cases h) Bd.notSynchronized (by decide) (by decide) (fun fs hr => retN X0 hx (t := .boolean) Bd.returns (by simp) (hb hby d1_86) hr) ?_
                rw [e0]
                have q : OChar p1 p2 := by clear hw; simp only [OChar, OIn, Int32.lt_iff_toInt_lt, ← Int32.toInt_inj, Int32.reduceToInt] at *; omega
                exact ⟨by rw [oChar, if_pos q], N0, rfl⟩
          · -- pc 60: not p1 < (57344 : Int32)
            refine own_st (F' := s₁.setTop (mkF m 63 #[.val (.int p1), .val (.int p2), .val (.int (1 : Int32))] [])) (fun t_ kk => XS.icmpNo X0.here hx rfl (hb hby d1_60) rfl (flt hc5).1 kk) ?_
            refine own_st (F' := s₁.setTop (mkF m 64 #[.val (.int p1), .val (.int p2), .val (.int (1 : Int32))] [(.int p1)])) (fun t_ kk => XS.iloadN X0.here hx rfl (hb hby d1_63) rfl kk) ?_
            refine own_st (F' := s₁.setTop (mkF m 66 #[.val (.int p1), .val (.int p2), .val (.int (1 : Int32))] [(.int (65533 : Int32)), (.int p1)])) (X0.ldcInt hx hown (mvT hZ (hw _ (List.mem_of_getElem? (i := 21) rfl))) (g := (mkF m 64 #[.val (.int p1), .val (.int p2), .val (.int (1 : Int32))] [(.int p1)])) rfl (hb hby d1_64)) ?_
            by_cases hc8 : (65533 : Int32) < p1
            · -- pc 66: (65533 : Int32) < p1
              refine own_st (F' := s₁.setTop (mkF m 69 #[.val (.int p1), .val (.int p2), .val (.int (1 : Int32))] [])) (fun t_ kk => XS.icmpNo X0.here hx rfl (hb hby d1_66) rfl (tlt hc8).2.2.2 kk) ?_
              refine own_st (F' := s₁.setTop (mkF m 70 #[.val (.int p1), .val (.int p2), .val (.int (1 : Int32))] [(.int p1)])) (fun t_ kk => XS.iloadN X0.here hx rfl (hb hby d1_69) rfl kk) ?_
              refine own_st (F' := s₁.setTop (mkF m 72 #[.val (.int p1), .val (.int p2), .val (.int (1 : Int32))] [(.int (65536 : Int32)), (.int p1)])) (X0.ldcInt hx hown (mvT hZ (hw _ (List.mem_of_getElem? (i := 22) rfl))) (g := (mkF m 70 #[.val (.int p1), .val (.int p2), .val (.int (1 : Int32))] [(.int p1)])) rfl (hb hby d1_70)) ?_
              by_cases hc9 : p1 < (65536 : Int32)
              · -- pc 72: p1 < (65536 : Int32)
                refine own_st (F' := s₁.setTop (mkF m 85 #[.val (.int p1), .val (.int p2), .val (.int (1 : Int32))] [])) (fun t_ kk => XS.icmpYes X0.here hx rfl (pc0 := 72) (pc' := 85) rfl (hb hby d1_72) rfl (tlt hc9).1 (by decide) (by decide) kk) ?_
                refine own_st (F' := s₁.setTop (mkF m 86 #[.val (.int p1), .val (.int p2), .val (.int (1 : Int32))] [(.int (0 : Int32))])) (fun t_ kk => XS.iconst X0.here hx rfl (hb hby d1_85) kk) ?_
                refine own_fin X0 (some (.int (0 : Int32))) (fun h => by rw [Bd.returns] at h; cases h) Bd.notSynchronized (by decide) (by decide) (fun fs hr => retN X0 hx (t := .boolean) Bd.returns (by simp) (hb hby d1_86) hr) ?_
                rw [e0]
                have q : ¬ OChar p1 p2 := by clear hw; simp only [OChar, OIn, Int32.lt_iff_toInt_lt, ← Int32.toInt_inj, Int32.reduceToInt] at *; omega
                exact ⟨by rw [oChar, if_neg q], N0, rfl⟩
              · -- pc 72: not p1 < (65536 : Int32)
                refine own_st (F' := s₁.setTop (mkF m 75 #[.val (.int p1), .val (.int p2), .val (.int (1 : Int32))] [])) (fun t_ kk => XS.icmpNo X0.here hx rfl (hb hby d1_72) rfl (flt hc9).1 kk) ?_
                refine own_st (F' := s₁.setTop (mkF m 76 #[.val (.int p1), .val (.int p2), .val (.int (1 : Int32))] [(.int p1)])) (fun t_ kk => XS.iloadN X0.here hx rfl (hb hby d1_75) rfl kk) ?_
                refine own_st (F' := s₁.setTop (mkF m 78 #[.val (.int p1), .val (.int p2), .val (.int (1 : Int32))] [(.int (1114111 : Int32)), (.int p1)])) (X0.ldcInt hx hown (mvT hZ (hw _ (List.mem_of_getElem? (i := 23) rfl))) (g := (mkF m 76 #[.val (.int p1), .val (.int p2), .val (.int (1 : Int32))] [(.int p1)])) rfl (hb hby d1_76)) ?_
                by_cases hc10 : (1114111 : Int32) < p1
                · -- pc 78: (1114111 : Int32) < p1
                  refine own_st (F' := s₁.setTop (mkF m 85 #[.val (.int p1), .val (.int p2), .val (.int (1 : Int32))] [])) (fun t_ kk => XS.icmpYes X0.here hx rfl (pc0 := 78) (pc' := 85) rfl (hb hby d1_78) rfl (tlt hc10).2.2.1 (by decide) (by decide) kk) ?_
                  refine own_st (F' := s₁.setTop (mkF m 86 #[.val (.int p1), .val (.int p2), .val (.int (1 : Int32))] [(.int (0 : Int32))])) (fun t_ kk => XS.iconst X0.here hx rfl (hb hby d1_85) kk) ?_
                  refine own_fin X0 (some (.int (0 : Int32))) (fun h => by rw [Bd.returns] at h; cases h) Bd.notSynchronized (by decide) (by decide) (fun fs hr => retN X0 hx (t := .boolean) Bd.returns (by simp) (hb hby d1_86) hr) ?_
                  rw [e0]
                  have q : ¬ OChar p1 p2 := by clear hw; simp only [OChar, OIn, Int32.lt_iff_toInt_lt, ← Int32.toInt_inj, Int32.reduceToInt] at *; omega
                  exact ⟨by rw [oChar, if_neg q], N0, rfl⟩
                · -- pc 78: not (1114111 : Int32) < p1
                  refine own_st (F' := s₁.setTop (mkF m 81 #[.val (.int p1), .val (.int p2), .val (.int (1 : Int32))] [])) (fun t_ kk => XS.icmpNo X0.here hx rfl (hb hby d1_78) rfl (flt hc10).2.2.1 kk) ?_
                  refine own_st (F' := s₁.setTop (mkF m 82 #[.val (.int p1), .val (.int p2), .val (.int (1 : Int32))] [(.int (1 : Int32))])) (fun t_ kk => XS.iconst X0.here hx rfl (hb hby d1_81) kk) ?_
                  refine own_st (F' := s₁.setTop (mkF m 86 #[.val (.int p1), .val (.int p2), .val (.int (1 : Int32))] [(.int (1 : Int32))])) (fun t_ kk => XS.goto X0.here hx rfl (pc0 := 82) (pc' := 86) rfl (hb hby d1_82) (by decide) (by decide) kk) ?_
                  refine own_fin X0 (some (.int (1 : Int32))) (fun h => by rw [Bd.returns] at h; cases h) Bd.notSynchronized (by decide) (by decide) (fun fs hr => retN X0 hx (t := .boolean) Bd.returns (by simp) (hb hby d1_86) hr) ?_
                  rw [e0]
                  have q : OChar p1 p2 := by clear hw; simp only [OChar, OIn, Int32.lt_iff_toInt_lt, ← Int32.toInt_inj, Int32.reduceToInt] at *; omega
                  exact ⟨by rw [oChar, if_pos q], N0, rfl⟩
            · -- pc 66: not (65533 : Int32) < p1
              refine own_st (F' := s₁.setTop (mkF m 81 #[.val (.int p1), .val (.int p2), .val (.int (1 : Int32))] [])) (fun t_ kk => XS.icmpYes X0.here hx rfl (pc0 := 66) (pc' := 81) rfl (hb hby d1_66) rfl (flt hc8).2.2.2 (by decide) (by decide) kk) ?_
              refine own_st (F' := s₁.setTop (mkF m 82 #[.val (.int p1), .val (.int p2), .val (.int (1 : Int32))] [(.int (1 : Int32))])) (fun t_ kk => XS.iconst X0.here hx rfl (hb hby d1_81) kk) ?_
              refine own_st (F' := s₁.setTop (mkF m 86 #[.val (.int p1), .val (.int p2), .val (.int (1 : Int32))] [(.int (1 : Int32))])) (fun t_ kk => XS.goto X0.here hx rfl (pc0 := 82) (pc' := 86) rfl (hb hby d1_82) (by decide) (by decide) kk) ?_
              refine own_fin X0 (some (.int (1 : Int32))) (fun h => by rw [Bd.returns] at h; cases h) Bd.notSynchronized (by decide) (by decide) (fun fs hr => retN X0 hx (t := .boolean) Bd.returns (by simp) (hb hby d1_86) hr) ?_
              rw [e0]
              have q : OChar p1 p2 := by clear hw; simp only [OChar, OIn, Int32.lt_iff_toInt_lt, ← Int32.toInt_inj, Int32.reduceToInt] at *; omega
              exact ⟨by rw [oChar, if_pos q], N0, rfl⟩
        · -- pc 54: not (55295 : Int32) < p1
          refine own_st (F' := s₁.setTop (mkF m 81 #[.val (.int p1), .val (.int p2), .val (.int (1 : Int32))] [])) (fun t_ kk => XS.icmpYes X0.here hx rfl (pc0 := 54) (pc' := 81) rfl (hb hby d1_54) rfl (flt hc4).2.2.2 (by decide) (by decide) kk) ?_
          refine own_st (F' := s₁.setTop (mkF m 82 #[.val (.int p1), .val (.int p2), .val (.int (1 : Int32))] [(.int (1 : Int32))])) (fun t_ kk => XS.iconst X0.here hx rfl (hb hby d1_81) kk) ?_
          refine own_st (F' := s₁.setTop (mkF m 86 #[.val (.int p1), .val (.int p2), .val (.int (1 : Int32))] [(.int (1 : Int32))])) (fun t_ kk => XS.goto X0.here hx rfl (pc0 := 82) (pc' := 86) rfl (hb hby d1_82) (by decide) (by decide) kk) ?_
          refine own_fin X0 (some (.int (1 : Int32))) (fun h => by rw [Bd.returns] at h; cases h) Bd.notSynchronized (by decide) (by decide) (fun fs hr => retN X0 hx (t := .boolean) Bd.returns (by simp) (hb hby d1_86) hr) ?_
          rw [e0]
          have q : OChar p1 p2 := by clear hw; simp only [OChar, OIn, Int32.lt_iff_toInt_lt, ← Int32.toInt_inj, Int32.reduceToInt] at *; omega
          exact ⟨by rw [oChar, if_pos q], N0, rfl⟩
    · -- pc 20: not p1 = (9 : Int32)
      refine own_st (F' := s₁.setTop (mkF m 23 #[.val (.int p1), .val (.int p2), .unset] [])) (fun t_ kk => XS.icmpNo X0.here hx rfl (hb hby d1_20) rfl (feq hc2).1 kk) ?_
      refine own_st (F' := s₁.setTop (mkF m 24 #[.val (.int p1), .val (.int p2), .unset] [(.int p1)])) (fun t_ kk => XS.iloadN X0.here hx rfl (hb hby d1_23) rfl kk) ?_
      refine own_st (F' := s₁.setTop (mkF m 26 #[.val (.int p1), .val (.int p2), .unset] [(.int (10 : Int32)), (.int p1)])) (fun t_ kk => XS.bipush X0.here hx rfl (hb hby d1_24) kk) ?_
      by_cases hc11 : p1 = (10 : Int32)
      · -- pc 26: p1 = (10 : Int32)
        refine own_st (F' := s₁.setTop (mkF m 35 #[.val (.int p1), .val (.int p2), .unset] [])) (fun t_ kk => XS.icmpYes X0.here hx rfl (pc0 := 26) (pc' := 35) rfl (hb hby d1_26) rfl (teq hc11).1 (by decide) (by decide) kk) ?_
        refine own_st (F' := s₁.setTop (mkF m 36 #[.val (.int p1), .val (.int p2), .unset] [(.int (1 : Int32))])) (fun t_ kk => XS.iconst X0.here hx rfl (hb hby d1_35) kk) ?_
        refine own_st (F' := s₁.setTop (mkF m 40 #[.val (.int p1), .val (.int p2), .unset] [(.int (1 : Int32))])) (fun t_ kk => XS.goto X0.here hx rfl (pc0 := 36) (pc' := 40) rfl (hb hby d1_36) (by decide) (by decide) kk) ?_
        refine own_st (F' := s₁.setTop (mkF m 41 #[.val (.int p1), .val (.int p2), .val (.int (1 : Int32))] [])) (fun t_ kk => XS.istoreN X0.here hx rfl (hb hby d1_40) rfl (l' := #[.val (.int p1), .val (.int p2), .val (.int (1 : Int32))]) rfl kk) ?_
        refine own_st (F' := s₁.setTop (mkF m 42 #[.val (.int p1), .val (.int p2), .val (.int (1 : Int32))] [(.int p1)])) (fun t_ kk => XS.iloadN X0.here hx rfl (hb hby d1_41) rfl kk) ?_
        refine own_st (F' := s₁.setTop (mkF m 44 #[.val (.int p1), .val (.int p2), .val (.int (1 : Int32))] [(.int (32 : Int32)), (.int p1)])) (fun t_ kk => XS.bipush X0.here hx rfl (hb hby d1_42) kk) ?_
        by_cases hc12 : p1 < (32 : Int32)
        · -- pc 44: p1 < (32 : Int32)
          refine own_st (F' := s₁.setTop (mkF m 47 #[.val (.int p1), .val (.int p2), .val (.int (1 : Int32))] [])) (fun t_ kk => XS.icmpNo X0.here hx rfl (hb hby d1_44) rfl (tlt hc12).2.1 kk) ?_
          refine own_st (F' := s₁.setTop (mkF m 48 #[.val (.int p1), .val (.int p2), .val (.int (1 : Int32))] [(.int (1 : Int32))])) (fun t_ kk => XS.iloadN X0.here hx rfl (hb hby d1_47) rfl kk) ?_
          refine own_st (F' := s₁.setTop (mkF m 86 #[.val (.int p1), .val (.int p2), .val (.int (1 : Int32))] [(.int (1 : Int32))])) (fun t_ kk => XS.goto X0.here hx rfl (pc0 := 48) (pc' := 86) rfl (hb hby d1_48) (by decide) (by decide) kk) ?_
          refine own_fin X0 (some (.int (1 : Int32))) (fun h => by rw [Bd.returns] at h; cases h) Bd.notSynchronized (by decide) (by decide) (fun fs hr => retN X0 hx (t := .boolean) Bd.returns (by simp) (hb hby d1_86) hr) ?_
          rw [e0]
          have q : OChar p1 p2 := by clear hw; simp only [OChar, OIn, Int32.lt_iff_toInt_lt, ← Int32.toInt_inj, Int32.reduceToInt] at *; omega
          exact ⟨by rw [oChar, if_pos q], N0, rfl⟩
        · -- pc 44: not p1 < (32 : Int32)
          refine own_st (F' := s₁.setTop (mkF m 51 #[.val (.int p1), .val (.int p2), .val (.int (1 : Int32))] [])) (fun t_ kk => XS.icmpYes X0.here hx rfl (pc0 := 44) (pc' := 51) rfl (hb hby d1_44) rfl (flt hc12).2.1 (by decide) (by decide) kk) ?_
          refine own_st (F' := s₁.setTop (mkF m 52 #[.val (.int p1), .val (.int p2), .val (.int (1 : Int32))] [(.int p1)])) (fun t_ kk => XS.iloadN X0.here hx rfl (hb hby d1_51) rfl kk) ?_
          refine own_st (F' := s₁.setTop (mkF m 54 #[.val (.int p1), .val (.int p2), .val (.int (1 : Int32))] [(.int (55295 : Int32)), (.int p1)])) (X0.ldcInt hx hown (mvT hZ (hw _ (List.mem_of_getElem? (i := 19) rfl))) (g := (mkF m 52 #[.val (.int p1), .val (.int p2), .val (.int (1 : Int32))] [(.int p1)])) rfl (hb hby d1_52)) ?_
          by_cases hc13 : (55295 : Int32) < p1
          · -- pc 54: (55295 : Int32) < p1
            refine own_st (F' := s₁.setTop (mkF m 57 #[.val (.int p1), .val (.int p2), .val (.int (1 : Int32))] [])) (fun t_ kk => XS.icmpNo X0.here hx rfl (hb hby d1_54) rfl (tlt hc13).2.2.2 kk) ?_
            refine own_st (F' := s₁.setTop (mkF m 58 #[.val (.int p1), .val (.int p2), .val (.int (1 : Int32))] [(.int p1)])) (fun t_ kk => XS.iloadN X0.here hx rfl (hb hby d1_57) rfl kk) ?_
            refine own_st (F' := s₁.setTop (mkF m 60 #[.val (.int p1), .val (.int p2), .val (.int (1 : Int32))] [(.int (57344 : Int32)), (.int p1)])) (X0.ldcInt hx hown (mvT hZ (hw _ (List.mem_of_getElem? (i := 20) rfl))) (g := (mkF m 58 #[.val (.int p1), .val (.int p2), .val (.int (1 : Int32))] [(.int p1)])) rfl (hb hby d1_58)) ?_
            by_cases hc14 : p1 < (57344 : Int32)
            · -- pc 60: p1 < (57344 : Int32)
              refine own_st (F' := s₁.setTop (mkF m 69 #[.val (.int p1), .val (.int p2), .val (.int (1 : Int32))] [])) (fun t_ kk => XS.icmpYes X0.here hx rfl (pc0 := 60) (pc' := 69) rfl (hb hby d1_60) rfl (tlt hc14).1 (by decide) (by decide) kk) ?_
              refine own_st (F' := s₁.setTop (mkF m 70 #[.val (.int p1), .val (.int p2), .val (.int (1 : Int32))] [(.int p1)])) (fun t_ kk => XS.iloadN X0.here hx rfl (hb hby d1_69) rfl kk) ?_
              refine own_st (F' := s₁.setTop (mkF m 72 #[.val (.int p1), .val (.int p2), .val (.int (1 : Int32))] [(.int (65536 : Int32)), (.int p1)])) (X0.ldcInt hx hown (mvT hZ (hw _ (List.mem_of_getElem? (i := 22) rfl))) (g := (mkF m 70 #[.val (.int p1), .val (.int p2), .val (.int (1 : Int32))] [(.int p1)])) rfl (hb hby d1_70)) ?_
              by_cases hc15 : p1 < (65536 : Int32)
              · -- pc 72: p1 < (65536 : Int32)
                refine own_st (F' := s₁.setTop (mkF m 85 #[.val (.int p1), .val (.int p2), .val (.int (1 : Int32))] [])) (fun t_ kk => XS.icmpYes X0.here hx rfl (pc0 := 72) (pc' := 85) rfl (hb hby d1_72) rfl (tlt hc15).1 (by decide) (by decide) kk) ?_
                refine own_st (F' := s₁.setTop (mkF m 86 #[.val (.int p1), .val (.int p2), .val (.int (1 : Int32))] [(.int (0 : Int32))])) (fun t_ kk => XS.iconst X0.here hx rfl (hb hby d1_85) kk) ?_
                refine own_fin X0 (some (.int (0 : Int32))) (fun h => by rw [Bd.returns] at h; cases h) Bd.notSynchronized (by decide) (by decide) (fun fs hr => retN X0 hx (t := .boolean) Bd.returns (by simp) (hb hby d1_86) hr) ?_
                rw [e0]
                have q : ¬ OChar p1 p2 := by clear hw; simp only [OChar, OIn, Int32.lt_iff_toInt_lt, ← Int32.toInt_inj, Int32.reduceToInt] at *; omega
                exact ⟨by rw [oChar, if_neg q], N0, rfl⟩
              · -- pc 72: not p1 < (65536 : Int32)
                refine own_st (F' := s₁.setTop (mkF m 75 #[.val (.int p1), .val (.int p2), .val (.int (1 : Int32))] [])) (fun t_ kk => XS.icmpNo X0.here hx rfl (hb hby d1_72) rfl (flt hc15).1 kk) ?_
                refine own_st (F' := s₁.setTop (mkF m 76 #[.val (.int p1), .val (.int p2), .val (.int (1 : Int32))] [(.int p1)])) (fun t_ kk => XS.iloadN X0.here hx rfl (hb hby d1_75) rfl kk) ?_
                refine own_st (F' := s₁.setTop (mkF m 78 #[.val (.int p1), .val (.int p2), .val (.int (1 : Int32))] [(.int (1114111 : Int32)), (.int p1)])) (X0.ldcInt hx hown (mvT hZ (hw _ (List.mem_of_getElem? (i := 23) rfl))) (g := (mkF m 76 #[.val (.int p1), .val (.int p2), .val (.int (1 : Int32))] [(.int p1)])) rfl (hb hby d1_76)) ?_
                by_cases hc16 : (1114111 : Int32) < p1
                · -- pc 78: (1114111 : Int32) < p1
                  refine own_st (F' := s₁.setTop (mkF m 85 #[.val (.int p1), .val (.int p2), .val (.int (1 : Int32))] [])) (fun t_ kk => XS.icmpYes X0.here hx rfl (pc0 := 78) (pc' := 85) rfl (hb hby d1_78) rfl (tlt hc16).2.2.1 (by decide) (by decide) kk) ?_
                  refine own_st (F' := s₁.setTop (mkF m 86 #[.val (.int p1), .val (.int p2), .val (.int (1 : Int32))] [(.int (0 : Int32))])) (fun t_ kk => XS.iconst X0.here hx rfl (hb hby d1_85) kk) ?_
                  refine own_fin X0 (some (.int (0 : Int32))) (fun h => by rw [Bd.returns] at h; cases h) Bd.notSynchronized (by decide) (by decide) (fun fs hr => retN X0 hx (t := .boolean) Bd.returns (by simp) (hb hby d1_86) hr) ?_
                  rw [e0]
                  have q : ¬ OChar p1 p2 := by clear hw; simp only [OChar, OIn, Int32.lt_iff_toInt_lt, ← Int32.toInt_inj, Int32.reduceToInt] at *; omega
                  exact ⟨by rw [oChar, if_neg q], N0, rfl⟩
                · -- pc 78: not (1114111 : Int32) < p1
                  refine own_st (F' := s₁.setTop (mkF m 81 #[.val (.int p1), .val (.int p2), .val (.int (1 : Int32))] [])) (fun t_ kk => XS.icmpNo X0.here hx rfl (hb hby d1_78) rfl (flt hc16).2.2.1 kk) ?_
                  refine own_st (F' := s₁.setTop (mkF m 82 #[.val (.int p1), .val (.int p2), .val (.int (1 : Int32))] [(.int (1 : Int32))])) (fun t_ kk => XS.iconst X0.here hx rfl (hb hby d1_81) kk) ?_
                  refine own_st (F' := s₁.setTop (mkF m 86 #[.val (.int p1), .val (.int p2), .val (.int (1 : Int32))] [(.int (1 : Int32))])) (fun t_ kk => XS.goto X0.here hx rfl (pc0 := 82) (pc' := 86) rfl (hb hby d1_82) (by decide) (by decide) kk) ?_
                  refine own_fin X0 (some (.int (1 : Int32))) (fun h => by rw [Bd.returns] at h; cases h) Bd.notSynchronized (by decide) (by decide) (fun fs hr => retN X0 hx (t := .boolean) Bd.returns (by simp) (hb hby d1_86) hr) ?_
                  rw [e0]
                  have q : OChar p1 p2 := by clear hw; simp only [OChar, OIn, Int32.lt_iff_toInt_lt, ← Int32.toInt_inj, Int32.reduceToInt] at *; omega
                  exact ⟨by rw [oChar, if_pos q], N0, rfl⟩
            · -- pc 60: not p1 < (57344 : Int32)
              refine own_st (F' := s₁.setTop (mkF m 63 #[.val (.int p1), .val (.int p2), .val (.int (1 : Int32))] [])) (fun t_ kk => XS.icmpNo X0.here hx rfl (hb hby d1_60) rfl (flt hc14).1 kk) ?_
              refine own_st (F' := s₁.setTop (mkF m 64 #[.val (.int p1), .val (.int p2), .val (.int (1 : Int32))] [(.int p1)])) (fun t_ kk => XS.iloadN X0.here hx rfl (hb hby d1_63) rfl kk) ?_
              refine own_st (F' := s₁.setTop (mkF m 66 #[.val (.int p1), .val (.int p2), .val (.int (1 : Int32))] [(.int (65533 : Int32)), (.int p1)])) (X0.ldcInt hx hown (mvT hZ (hw _ (List.mem_of_getElem? (i := 21) rfl))) (g := (mkF m 64 #[.val (.int p1), .val (.int p2), .val (.int (1 : Int32))] [(.int p1)])) rfl (hb hby d1_64)) ?_
              by_cases hc17 : (65533 : Int32) < p1
              · -- pc 66: (65533 : Int32) < p1
                refine own_st (F' := s₁.setTop (mkF m 69 #[.val (.int p1), .val (.int p2), .val (.int (1 : Int32))] [])) (fun t_ kk => XS.icmpNo X0.here hx rfl (hb hby d1_66) rfl (tlt hc17).2.2.2 kk) ?_
                refine own_st (F' := s₁.setTop (mkF m 70 #[.val (.int p1), .val (.int p2), .val (.int (1 : Int32))] [(.int p1)])) (fun t_ kk => XS.iloadN X0.here hx rfl (hb hby d1_69) rfl kk) ?_
                refine own_st (F' := s₁.setTop (mkF m 72 #[.val (.int p1), .val (.int p2), .val (.int (1 : Int32))] [(.int (65536 : Int32)), (.int p1)])) (X0.ldcInt hx hown (mvT hZ (hw _ (List.mem_of_getElem? (i := 22) rfl))) (g := (mkF m 70 #[.val (.int p1), .val (.int p2), .val (.int (1 : Int32))] [(.int p1)])) rfl (hb hby d1_70)) ?_
                by_cases hc18 : p1 < (65536 : Int32)
                · -- pc 72: p1 < (65536 : Int32)
                  refine own_st (F' := s₁.setTop (mkF m 85 #[.val (.int p1), .val (.int p2), .val (.int (1 : Int32))] [])) (fun t_ kk => XS.icmpYes X0.here hx rfl (pc0 := 72) (pc' := 85) rfl (hb hby d1_72) rfl (tlt hc18).1 (by decide) (by decide) kk) ?_
                  refine own_st (F' := s₁.setTop (mkF m 86 #[.val (.int p1), .val (.int p2), .val (.int (1 : Int32))] [(.int (0 : Int32))])) (fun t_ kk => XS.iconst X0.here hx rfl (hb hby d1_85) kk) ?_
                  refine own_fin X0 (some (.int (0 : Int32))) (fun h => by rw [Bd.returns] at h; cases h) Bd.notSynchronized (by decide) (by decide) (fun fs hr => retN X0 hx (t := .boolean) Bd.returns (by simp) (hb hby d1_86) hr) ?_
                  rw [e0]
                  have q : ¬ OChar p1 p2 := by clear hw; simp only [OChar, OIn, Int32.lt_iff_toInt_lt, ← Int32.toInt_inj, Int32.reduceToInt] at *; omega
                  exact ⟨by rw [oChar, if_neg q], N0, rfl⟩
                · -- pc 72: not p1 < (65536 : Int32)
                  refine own_st (F' := s₁.setTop (mkF m 75 #[.val (.int p1), .val (.int p2), .val (.int (1 : Int32))] [])) (fun t_ kk => XS.icmpNo X0.here hx rfl (hb hby d1_72) rfl (flt hc18).1 kk) ?_
                  refine own_st (F' := s₁.setTop (mkF m 76 #[.val (.int p1), .val (.int p2), .val (.int (1 : Int32))] [(.int p1)])) (fun t_ kk => XS.iloadN X0.here hx rfl (hb hby d1_75) rfl kk) ?_
                  refine own_st (F' := s₁.setTop (mkF m 78 #[.val (.int p1), .val (.int p2), .val (.int (1 : Int32))] [(.int (1114111 : Int32)), (.int p1)])) (X0.ldcInt hx hown (mvT hZ (hw _ (List.mem_of_getElem? (i := 23) rfl))) (g := (mkF m 76 #[.val (.int p1), .val (.int p2), .val (.int (1 : Int32))] [(.int p1)])) rfl (hb hby d1_76)) ?_
                  by_cases hc19 : (1114111 : Int32) < p1
                  · -- pc 78: (1114111 : Int32) < p1
                    refine own_st (F' := s₁.setTop (mkF m 85 #[.val (.int p1), .val (.int p2), .val (.int (1 : Int32))] [])) (fun t_ kk => XS.icmpYes X0.here hx rfl (pc0 := 78) (pc' := 85) rfl (hb hby d1_78) rfl (tlt hc19).2.2.1 (by decide) (by decide) kk) ?_
                    refine own_st (F' := s₁.setTop (mkF m 86 #[.val (.int p1), .val (.int p2), .val (.int (1 : Int32))] [(.int (0 : Int32))])) (fun t_ kk => XS.iconst X0.here hx rfl (hb hby d1_85) kk) ?_
                    refine own_fin X0 (some (.int (0 : Int32))) (fun h => by rw [Bd.returns] at h; cases h) Bd.notSynchronized (by decide) (by decide) (fun fs hr => retN X0 hx (t := .boolean) Bd.returns (by simp) (hb hby d1_86) hr) ?_
                    rw [e0]
                    have q : ¬ OChar p1 p2 := by clear hw; simp only [OChar, OIn, Int32.lt_iff_toInt_lt, ← Int32.toInt_inj, Int32.reduceToInt] at *; omega
                    exact ⟨by rw [oChar, if_neg q], N0, rfl⟩
                  · -- pc 78: not (1114111 : Int32) < p1
                    refine own_st (F' := s₁.setTop (mkF m 81 #[.val (.int p1), .val (.int p2), .val (.int (1 : Int32))] [])) (fun t_ kk => XS.icmpNo X0.here hx rfl (hb hby d1_78) rfl (flt hc19).2.2.1 kk) ?_
                    refine own_st (F' := s₁.setTop (mkF m 82 #[.val (.int p1), .val (.int p2), .val (.int (1 : Int32))] [(.int (1 : Int32))])) (fun t_ kk => XS.iconst X0.here hx rfl (hb hby d1_81) kk) ?_
                    refine own_st (F' := s₁.setTop (mkF m 86 #[.val (.int p1), .val (.int p2), .val (.int (1 : Int32))] [(.int (1 : Int32))])) (fun t_ kk => XS.goto X0.here hx rfl (pc0 := 82) (pc' := 86) rfl (hb hby d1_82) (by decide) (by decide) kk) ?_
                    refine own_fin X0 (some (.int (1 : Int32))) (fun h => by rw [Bd.returns] at h; cases h) Bd.notSynchronized (by decide) (by decide) (fun fs hr => retN X0 hx (t := .boolean) Bd.returns (by simp) (hb hby d1_86) hr) ?_
                    rw [e0]
                    have q : OChar p1 p2 := by clear hw; simp only [OChar, OIn, Int32.lt_iff_toInt_lt, ← Int32.toInt_inj, Int32.reduceToInt] at *; omega
                    exact ⟨by rw [oChar, if_pos q], N0, rfl⟩
              · -- pc 66: not (65533 : Int32) < p1
                refine own_st (F' := s₁.setTop (mkF m 81 #[.val (.int p1), .val (.int p2), .val (.int (1 : Int32))] [])) (fun t_ kk => XS.icmpYes X0.here hx rfl (pc0 := 66) (pc' := 81) rfl (hb hby d1_66) rfl (flt hc17).2.2.2 (by decide) (by decide) kk) ?_
                refine own_st (F' := s₁.setTop (mkF m 82 #[.val (.int p1), .val (.int p2), .val (.int (1 : Int32))] [(.int (1 : Int32))])) (fun t_ kk => XS.iconst X0.here hx rfl (hb hby d1_81) kk) ?_
                refine own_st (F' := s₁.setTop (mkF m 86 #[.val (.int p1), .val (.int p2), .val (.int (1 : Int32))] [(.int (1 : Int32))])) (fun t_ kk => XS.goto X0.here hx rfl (pc0 := 82) (pc' := 86) rfl (hb hby d1_82) (by decide) (by decide) kk) ?_
                refine own_fin X0 (some (.int (1 : Int32))) (fun h => by rw [Bd.returns] at h; cases h) Bd.notSynchronized (by decide) (by decide) (fun fs hr => retN X0 hx (t := .boolean) Bd.returns (by simp) (hb hby d1_86) hr) ?_
                rw [e0]
                have q : OChar p1 p2 := by clear hw; simp only [OChar, OIn, Int32.lt_iff_toInt_lt, ← Int32.toInt_inj, Int32.reduceToInt] at *; omega
                exact ⟨by rw [oChar, if_pos q], N0, rfl⟩
          · -- pc 54: not (55295 : Int32) < p1
            refine own_st (F' := s₁.setTop (mkF m 81 #[.val (.int p1), .val (.int p2), .val (.int (1 : Int32))] [])) (fun t_ kk => XS.icmpYes X0.here hx rfl (pc0 := 54) (pc' := 81) rfl (hb hby d1_54) rfl (flt hc13).2.2.2 (by decide) (by decide) kk) ?_
            refine own_st (F' := s₁.setTop (mkF m 82 #[.val (.int p1), .val (.int p2), .val (.int (1 : Int32))] [(.int (1 : Int32))])) (fun t_ kk => XS.iconst X0.here hx rfl (hb hby d1_81) kk) ?_
            refine own_st (F' := s₁.setTop (mkF m 86 #[.val (.int p1), .val (.int p2), .val (.int (1 : Int32))] [(.int (1 : Int32))])) (fun t_ kk => XS.goto X0.here hx rfl (pc0 := 82) (pc' := 86) rfl (hb hby d1_82) (by decide) (by decide) kk) ?_
            refine own_fin X0 (some (.int (1 : Int32))) (fun h => by rw [Bd.returns] at h; cases h) Bd.notSynchronized (by decide) (by decide) (fun fs hr => retN X0 hx (t := .boolean) Bd.returns (by simp) (hb hby d1_86) hr) ?_
            rw [e0]
            have q : OChar p1 p2 := by clear hw; simp only [OChar, OIn, Int32.lt_iff_toInt_lt, ← Int32.toInt_inj, Int32.reduceToInt] at *; omega
            exact ⟨by rw [oChar, if_pos q], N0, rfl⟩
      · -- pc 26: not p1 = (10 : Int32)
        refine own_st (F' := s₁.setTop (mkF m 29 #[.val (.int p1), .val (.int p2), .unset] [])) (fun t_ kk => XS.icmpNo X0.here hx rfl (hb hby d1_26) rfl (feq hc11).1 kk) ?_
        refine own_st (F' := s₁.setTop (mkF m 30 #[.val (.int p1), .val (.int p2), .unset] [(.int p1)])) (fun t_ kk => XS.iloadN X0.here hx rfl (hb hby d1_29) rfl kk) ?_
        refine own_st (F' := s₁.setTop (mkF m 32 #[.val (.int p1), .val (.int p2), .unset] [(.int (13 : Int32)), (.int p1)])) (fun t_ kk => XS.bipush X0.here hx rfl (hb hby d1_30) kk) ?_
        by_cases hc20 : p1 = (13 : Int32)
        · -- pc 32: p1 = (13 : Int32)
          refine own_st (F' := s₁.setTop (mkF m 35 #[.val (.int p1), .val (.int p2), .unset] [])) (fun t_ kk => XS.icmpNo X0.here hx rfl (hb hby d1_32) rfl (teq hc20).2 kk) ?_
          refine own_st (F' := s₁.setTop (mkF m 36 #[.val (.int p1), .val (.int p2), .unset] [(.int (1 : Int32))])) (fun t_ kk => XS.iconst X0.here hx rfl (hb hby d1_35) kk) ?_
          refine own_st (F' := s₁.setTop (mkF m 40 #[.val (.int p1), .val (.int p2), .unset] [(.int (1 : Int32))])) (fun t_ kk => XS.goto X0.here hx rfl (pc0 := 36) (pc' := 40) rfl (hb hby d1_36) (by decide) (by decide) kk) ?_
          refine own_st (F' := s₁.setTop (mkF m 41 #[.val (.int p1), .val (.int p2), .val (.int (1 : Int32))] [])) (fun t_ kk => XS.istoreN X0.here hx rfl (hb hby d1_40) rfl (l' := #[.val (.int p1), .val (.int p2), .val (.int (1 : Int32))]) rfl kk) ?_
          refine own_st (F' := s₁.setTop (mkF m 42 #[.val (.int p1), .val (.int p2), .val (.int (1 : Int32))] [(.int p1)])) (fun t_ kk => XS.iloadN X0.here hx rfl (hb hby d1_41) rfl kk) ?_
          refine own_st (F' := s₁.setTop (mkF m 44 #[.val (.int p1), .val (.int p2), .val (.int (1 : Int32))] [(.int (32 : Int32)), (.int p1)])) (fun t_ kk => XS.bipush X0.here hx rfl (hb hby d1_42) kk) ?_
          by_cases hc21 : p1 < (32 : Int32)
          · -- pc 44: p1 < (32 : Int32)
            refine own_st (F' := s₁.setTop (mkF m 47 #[.val (.int p1), .val (.int p2), .val (.int (1 : Int32))] [])) (fun t_ kk => XS.icmpNo X0.here hx rfl (hb hby d1_44) rfl (tlt hc21).2.1 kk) ?_
            refine own_st (F' := s₁.setTop (mkF m 48 #[.val (.int p1), .val (.int p2), .val (.int (1 : Int32))] [(.int (1 : Int32))])) (fun t_ kk => XS.iloadN X0.here hx rfl (hb hby d1_47) rfl kk) ?_
            refine own_st (F' := s₁.setTop (mkF m 86 #[.val (.int p1), .val (.int p2), .val (.int (1 : Int32))] [(.int (1 : Int32))])) (fun t_ kk => XS.goto X0.here hx rfl (pc0 := 48) (pc' := 86) rfl (hb hby d1_48) (by decide) (by decide) kk) ?_
            refine own_fin X0 (some (.int (1 : Int32))) (fun h => by rw [Bd.returns] at h; cases h) Bd.notSynchronized (by decide) (by decide) (fun fs hr => retN X0 hx (t := .boolean) Bd.returns (by simp) (hb hby d1_86) hr) ?_
            rw [e0]
            have q : OChar p1 p2 := by clear hw; simp only [OChar, OIn, Int32.lt_iff_toInt_lt, ← Int32.toInt_inj, Int32.reduceToInt] at *; omega
            exact ⟨by rw [oChar, if_pos q], N0, rfl⟩
          · -- pc 44: not p1 < (32 : Int32)
            refine own_st (F' := s₁.setTop (mkF m 51 #[.val (.int p1), .val (.int p2), .val (.int (1 : Int32))] [])) (fun t_ kk => XS.icmpYes X0.here hx rfl (pc0 := 44) (pc' := 51) rfl (hb hby d1_44) rfl (flt hc21).2.1 (by decide) (by decide) kk) ?_
            refine own_st (F' := s₁.setTop (mkF m 52 #[.val (.int p1), .val (.int p2), .val (.int (1 : Int32))] [(.int p1)])) (fun t_ kk => XS.iloadN X0.here hx rfl (hb hby d1_51) rfl kk) ?_
            refine own_st (F' := s₁.setTop (mkF m 54 #[.val (.int p1), .val (.int p2), .val (.int (1 : Int32))] [(.int (55295 : Int32)), (.int p1)])) (X0.ldcInt hx hown (mvT hZ (hw _ (List.mem_of_getElem? (i := 19) rfl))) (g := (mkF m 52 #[.val (.int p1), .val (.int p2), .val (.int (1 : Int32))] [(.int p1)])) rfl (hb hby d1_52)) ?_
            by_cases hc22 : (55295 : Int32) < p1
            · -- pc 54: (55295 : Int32) < p1
              refine own_st (F' := s₁.setTop (mkF m 57 #[.val (.int p1), .val (.int p2), .val (.int (1 : Int32))] [])) (fun t_ kk => XS.icmpNo X0.here hx rfl (hb hby d1_54) rfl (tlt hc22).2.2.2 kk) ?_
              refine own_st (F' := s₁.setTop (mkF m 58 #[.val (.int p1), .val (.int p2), .val (.int (1 : Int32))] [(.int p1)])) (fun t_ kk => XS.iloadN X0.here hx rfl (hb hby d1_57) rfl kk) ?_
              refine own_st (F' := s₁.setTop (mkF m 60 #[.val (.int p1), .val (.int p2), .val (.int (1 : Int32))] [(.int (57344 : Int32)), (.int p1)])) (X0.ldcInt hx hown (mvT hZ (hw _ (List.mem_of_getElem? (i := 20) rfl))) (g := (mkF m 58 #[.val (.int p1), .val (.int p2), .val (.int (1 : Int32))] [(.int p1)])) rfl (hb hby d1_58)) ?_
              by_cases hc23 : p1 < (57344 : Int32)
              · -- pc 60: p1 < (57344 : Int32)
                refine own_st (F' := s₁.setTop (mkF m 69 #[.val (.int p1), .val (.int p2), .val (.int (1 : Int32))] [])) (fun t_ kk => XS.icmpYes X0.here hx rfl (pc0 := 60) (pc' := 69) rfl (hb hby d1_60) rfl (tlt hc23).1 (by decide) (by decide) kk) ?_
                refine own_st (F' := s₁.setTop (mkF m 70 #[.val (.int p1), .val (.int p2), .val (.int (1 : Int32))] [(.int p1)])) (fun t_ kk => XS.iloadN X0.here hx rfl (hb hby d1_69) rfl kk) ?_
                refine own_st (F' := s₁.setTop (mkF m 72 #[.val (.int p1), .val (.int p2), .val (.int (1 : Int32))] [(.int (65536 : Int32)), (.int p1)])) (X0.ldcInt hx hown (mvT hZ (hw _ (List.mem_of_getElem? (i := 22) rfl))) (g := (mkF m 70 #[.val (.int p1), .val (.int p2), .val (.int (1 : Int32))] [(.int p1)])) rfl (hb hby d1_70)) ?_
                by_cases hc24 : p1 < (65536 : Int32)
                · -- pc 72: p1 < (65536 : Int32)
                  refine own_st (F' := s₁.setTop (mkF m 85 #[.val (.int p1), .val (.int p2), .val (.int (1 : Int32))] [])) (fun t_ kk => XS.icmpYes X0.here hx rfl (pc0 := 72) (pc' := 85) rfl (hb hby d1_72) rfl (tlt hc24).1 (by decide) (by decide) kk) ?_
                  refine own_st (F' := s₁.setTop (mkF m 86 #[.val (.int p1), .val (.int p2), .val (.int (1 : Int32))] [(.int (0 : Int32))])) (fun t_ kk => XS.iconst X0.here hx rfl (hb hby d1_85) kk) ?_
                  refine own_fin X0 (some (.int (0 : Int32))) (fun h => by rw [Bd.returns] at h; cases h) Bd.notSynchronized (by decide) (by decide) (fun fs hr => retN X0 hx (t := .boolean) Bd.returns (by simp) (hb hby d1_86) hr) ?_
                  rw [e0]
                  have q : ¬ OChar p1 p2 := by clear hw; simp only [OChar, OIn, Int32.lt_iff_toInt_lt, ← Int32.toInt_inj, Int32.reduceToInt] at *; omega
                  exact ⟨by rw [oChar, if_neg q], N0, rfl⟩
                · -- pc 72: not p1 < (65536 : Int32)
                  refine own_st (F' := s₁.setTop (mkF m 75 #[.val (.int p1), .val (.int p2), .val (.int (1 : Int32))] [])) (fun t_ kk => XS.icmpNo X0.here hx rfl (hb hby d1_72) rfl (flt hc24).1 kk) ?_
                  refine own_st (F' := s₁.setTop (mkF m 76 #[.val (.int p1), .val (.int p2), .val (.int (1 : Int32))] [(.int p1)])) (fun t_ kk => XS.iloadN X0.here hx rfl (hb hby d1_75) rfl kk) ?_
                  refine own_st (F' := s₁.setTop (mkF m 78 #[.val (.int p1), .val (.int p2), .val (.int (1 : Int32))] [(.int (1114111 : Int32)), (.int p1)])) (X0.ldcInt hx hown (mvT hZ (hw _ (List.mem_of_getElem? (i := 23) rfl))) (g := (mkF m 76 #[.val (.int p1), .val (.int p2), .val (.int (1 : Int32))] [(.int p1)])) rfl (hb hby d1_76)) ?_
                  by_cases hc25 : (1114111 : Int32) < p1
                  · -- pc 78: (1114111 : Int32) < p1
                    refine own_st (F' := s₁.setTop (mkF m 85 #[.val (.int p1), .val (.int p2), .val (.int (1 : Int32))] [])) (fun t_ kk => XS.icmpYes X0.here hx rfl (pc0 := 78) (pc' := 85) rfl (hb hby d1_78) rfl (tlt hc25).2.2.1 (by decide) (by decide) kk) ?_
                    refine own_st (F' := s₁.setTop (mkF m 86 #[.val (.int p1), .val (.int p2), .val (.int (1 : Int32))] [(.int (0 : Int32))])) (fun t_ kk => XS.iconst X0.here hx rfl (hb hby d1_85) kk) ?_
                    refine own_fin X0 (some (.int (0 : Int32))) (fun h => by rw [Bd.returns] at h; cases h) Bd.notSynchronized (by decide) (by decide) (fun fs hr => retN X0 hx (t := .boolean) Bd.returns (by simp) (hb hby d1_86) hr) ?_
                    rw [e0]
                    have q : ¬ OChar p1 p2 := by clear hw; simp only [OChar, OIn, Int32.lt_iff_toInt_lt, ← Int32.toInt_inj, Int32.reduceToInt] at *; omega
                    exact ⟨by rw [oChar, if_neg q], N0, rfl⟩
                  · -- pc 78: not (1114111 : Int32) < p1
                    refine own_st (F' := s₁.setTop (mkF m 81 #[.val (.int p1), .val (.int p2), .val (.int (1 : Int32))] [])) (fun t_ kk => XS.icmpNo X0.here hx rfl (hb hby d1_78) rfl (flt hc25).2.2.1 kk) ?_
                    refine own_st (F' := s₁.setTop (mkF m 82 #[.val (.int p1), .val (.int p2), .val (.int (1 : Int32))] [(.int (1 : Int32))])) (fun t_ kk => XS.iconst X0.here hx rfl (hb hby d1_81) kk) ?_
                    refine own_st (F' := s₁.setTop (mkF m 86 #[.val (.int p1), .val (.int p2), .val (.int (1 : Int32))] [(.int (1 : Int32))])) (fun t_ kk => XS.goto X0.here hx rfl (pc0 := 82) (pc' := 86) rfl (hb hby d1_82) (by decide) (by decide) kk) ?_
                    refine own_fin X0 (some (.int (1 : Int32))) (fun h => by rw [Bd.returns] at h; cases h) Bd.notSynchronized (by decide) (by decide) (fun fs hr => retN X0 hx (t := .boolean) Bd.returns (by simp) (hb hby d1_86) hr) ?_
                    rw [e0]
                    have q : OChar p1 p2 := by clear hw; simp only [OChar, OIn, Int32.lt_iff_toInt_lt, ← Int32.toInt_inj, Int32.reduceToInt] at *; omega
                    exact ⟨by rw [oChar, if_pos q], N0, rfl⟩
              · -- pc 60: not p1 < (57344 : Int32)
                refine own_st (F' := s₁.setTop (mkF m 63 #[.val (.int p1), .val (.int p2), .val (.int (1 : Int32))] [])) (fun t_ kk => XS.icmpNo X0.here hx rfl (hb hby d1_60) rfl (flt hc23).1 kk) ?_
                refine own_st (F' := s₁.setTop (mkF m 64 #[.val (.int p1), .val (.int p2), .val (.int (1 : Int32))] [(.int p1)])) (fun t_ kk => XS.iloadN X0.here hx rfl (hb hby d1_63) rfl kk) ?_
                refine own_st (F' := s₁.setTop (mkF m 66 #[.val (.int p1), .val (.int p2), .val (.int (1 : Int32))] [(.int (65533 : Int32)), (.int p1)])) (X0.ldcInt hx hown (mvT hZ (hw _ (List.mem_of_getElem? (i := 21) rfl))) (g := (mkF m 64 #[.val (.int p1), .val (.int p2), .val (.int (1 : Int32))] [(.int p1)])) rfl (hb hby d1_64)) ?_
                by_cases hc26 : (65533 : Int32) < p1
                · -- pc 66: (65533 : Int32) < p1
                  refine own_st (F' := s₁.setTop (mkF m 69 #[.val (.int p1), .val (.int p2), .val (.int (1 : Int32))] [])) (fun t_ kk => XS.icmpNo X0.here hx rfl (hb hby d1_66) rfl (tlt hc26).2.2.2 kk) ?_
                  refine own_st (F' := s₁.setTop (mkF m 70 #[.val (.int p1), .val (.int p2), .val (.int (1 : Int32))] [(.int p1)])) (fun t_ kk => XS.iloadN X0.here hx rfl (hb hby d1_69) rfl kk) ?_
                  refine own_st (F' := s₁.setTop (mkF m 72 #[.val (.int p1), .val (.int p2), .val (.int (1 : Int32))] [(.int (65536 : Int32)), (.int p1)])) (X0.ldcInt hx hown (mvT hZ (hw _ (List.mem_of_getElem? (i := 22) rfl))) (g := (mkF m 70 #[.val (.int p1), .val (.int p2), .val (.int (1 : Int32))] [(.int p1)])) rfl (hb hby d1_70)) ?_
                  by_cases hc27 : p1 < (65536 : Int32)
                  · -- pc 72: p1 < (65536 : Int32)
                    refine own_st (F' := s₁.setTop (mkF m 85 #[.val (.int p1), .val (.int p2), .val (.int (1 : Int32))] [])) (fun t_ kk => XS.icmpYes X0.here hx rfl (pc0 := 72) (pc' := 85) rfl (hb hby d1_72) rfl (tlt hc27).1 (by decide) (by decide) kk) ?_
                    refine own_st (F' := s₁.setTop (mkF m 86 #[.val (.int p1), .val (.int p2), .val (.int (1 : Int32))] [(.int (0 : Int32))])) (fun t_ kk => XS.iconst X0.here hx rfl (hb hby d1_85) kk) ?_
                    refine own_fin X0 (some (.int (0 : Int32))) (fun h => by rw [Bd.returns] at h; cases h) Bd.notSynchronized (by decide) (by decide) (fun fs hr => retN X0 hx (t := .boolean) Bd.returns (by simp) (hb hby d1_86) hr) ?_
                    rw [e0]
                    have q : ¬ OChar p1 p2 := by clear hw; simp only [OChar, OIn, Int32.lt_iff_toInt_lt, ← Int32.toInt_inj, Int32.reduceToInt] at *; omega
                    exact ⟨by rw [oChar, if_neg q], N0, rfl⟩
                  · -- pc 72: not p1 < (65536 : Int32)
                    refine own_st (F' := s₁.setTop (mkF m 75 #[.val (.int p1), .val (.int p2), .val (.int (1 : Int32))] [])) (fun t_ kk => XS.icmpNo X0.here hx rfl (hb hby d1_72) rfl (flt hc27).1 kk) ?_
                    refine own_st (F' := s₁.setTop (mkF m 76 #[.val (.int p1), .val (.int p2), .val (.int (1 : Int32))] [(.int p1)])) (fun t_ kk => XS.iloadN X0.here hx rfl (hb hby d1_75) rfl kk) ?_
                    refine own_st (F' := s₁.setTop (mkF m 78 #[.val (.int p1), .val (.int p2), .val (.int (1 : Int32))] [(.int (1114111 : Int32)), (.int p1)])) (X0.ldcInt hx hown (mvT hZ (hw _ (List.mem_of_getElem? (i := 23) rfl))) (g := (mkF m 76 #[.val (.int p1), .val (.int p2), .val (.int (1 : Int32))] [(.int p1)])) rfl (hb hby d1_76)) ?_
                    by_cases hc28 : (1114111 : Int32) < p1
                    · -- pc 78: (1114111 : Int32) < p1
                      refine own_st (F' := s₁.setTop (mkF m 85 #[.val (.int p1), .val (.int p2), .val (.int (1 : Int32))] [])) (fun t_ kk => XS.icmpYes X0.here hx rfl (pc0 := 78) (pc' := 85) rfl (hb hby d1_78) rfl (tlt hc28).2.2.1 (by decide) (by decide) kk) ?_
                      refine own_st (F' := s₁.setTop (mkF m 86 #[.val (.int p1), .val (.int p2), .val (.int (1 : Int32))] [(.int (0 : Int32))])) (fun t_ kk => XS.iconst X0.here hx rfl (hb hby d1_85) kk) ?_
                      refine own_fin X0 (some (.int (0 : Int32))) (fun h => by rw [Bd.returns] at h; cases h) Bd.notSynchronized (by decide) (by decide) (fun fs hr => retN X0 hx (t := .boolean) Bd.returns (by simp) (hb hby d1_86) hr) ?_
                      rw [e0]
                      have q : ¬ OChar p1 p2 := by clear hw; simp only [OChar, OIn, Int32.lt_iff_toInt_lt, ← Int32.toInt_inj, Int32.reduceToInt] at *; omega
                      exact ⟨by rw [oChar, if_neg q], N0, rfl⟩
                    · -- pc 78: not (1114111 : Int32) < p1
                      refine own_st (F' := s₁.setTop (mkF m 81 #[.val (.int p1), .val (.int p2), .val (.int (1 : Int32))] [])) (fun t_ kk => XS.icmpNo X0.here hx rfl (hb hby d1_78) rfl (flt hc28).2.2.1 kk) ?_
                      refine own_st (F' := s₁.setTop (mkF m 82 #[.val (.int p1), .val (.int p2), .val (.int (1 : Int32))] [(.int (1 : Int32))])) (fun t_ kk => XS.iconst X0.here hx rfl (hb hby d1_81) kk) ?_
                      refine own_st (F' := s₁.setTop (mkF m 86 #[.val (.int p1), .val (.int p2), .val (.int (1 : Int32))] [(.int (1 : Int32))])) (fun t_ kk => XS.goto X0.here hx rfl (pc0 := 82) (pc' := 86) rfl (hb hby d1_82) (by decide) (by decide) kk) ?_
                      refine own_fin X0 (some (.int (1 : Int32))) (fun h => by rw [Bd.returns] at h; cases h) Bd.notSynchronized (by decide) (by decide) (fun fs hr => retN X0 hx (t := .boolean) Bd.returns (by simp) (hb hby d1_86) hr) ?_
                      rw [e0]
                      have q : OChar p1 p2 := by clear hw; simp only [OChar, OIn, Int32.lt_iff_toInt_lt, ← Int32.toInt_inj, Int32.reduceToInt] at *; omega
                      exact ⟨by rw [oChar, if_pos q], N0, rfl⟩
                · -- pc 66: not (65533 : Int32) < p1
                  refine own_st (F' := s₁.setTop (mkF m 81 #[.val (.int p1), .val (.int p2), .val (.int (1 : Int32))] [])) (fun t_ kk => XS.icmpYes X0.here hx rfl (pc0 := 66) (pc' := 81) rfl (hb hby d1_66) rfl (flt hc26).2.2.2 (by decide) (by decide) kk) ?_
                  refine own_st (F' := s₁.setTop (mkF m 82 #[.val (.int p1), .val (.int p2), .val (.int (1 : Int32))] [(.int (1 : Int32))])) (fun t_ kk => XS.iconst X0.here hx rfl (hb hby d1_81) kk) ?_
                  refine own_st (F' := s₁.setTop (mkF m 86 #[.val (.int p1), .val (.int p2), .val (.int (1 : Int32))] [(.int (1 : Int32))])) (fun t_ kk => XS.goto X0.here hx rfl (pc0 := 82) (pc' := 86) rfl (hb hby d1_82) (by decide) (by decide) kk) ?_
                  refine own_fin X0 (some (.int (1 : Int32))) (fun h => by rw [Bd.returns] at h; cases h) Bd.notSynchronized (by decide) (by decide) (fun fs hr => retN X0 hx (t := .boolean) Bd.returns (by simp) (hb hby d1_86) hr) ?_
                  rw [e0]
                  have q : OChar p1 p2 := by clear hw; simp only [OChar, OIn, Int32.lt_iff_toInt_lt, ← Int32.toInt_inj, Int32.reduceToInt] at *; omega
                  exact ⟨by rw [oChar, if_pos q], N0, rfl⟩
            · -- pc 54: not (55295 : Int32) < p1
              refine own_st (F' := s₁.setTop (mkF m 81 #[.val (.int p1), .val (.int p2), .val (.int (1 : Int32))] [])) (fun t_ kk => XS.icmpYes X0.here hx rfl (pc0 := 54) (pc' := 81) rfl (hb hby d1_54) rfl (flt hc22).2.2.2 (by decide) (by decide) kk) ?_
              refine own_st (F' := s₁.setTop (mkF m 82 #[.val (.int p1), .val (.int p2), .val (.int (1 : Int32))] [(.int (1 : Int32))])) (fun t_ kk => XS.iconst X0.here hx rfl (hb hby d1_81) kk) ?_
              refine own_st (F' := s₁.setTop (mkF m 86 #[.val (.int p1), .val (.int p2), .val (.int (1 : Int32))] [(.int (1 : Int32))])) (fun t_ kk => XS.goto X0.here hx rfl (pc0 := 82) (pc' := 86) rfl (hb hby d1_82) (by decide) (by decide) kk) ?_
              refine own_fin X0 (some (.int (1 : Int32))) (fun h => by rw [Bd.returns] at h; cases h) Bd.notSynchronized (by decide) (by decide) (fun fs hr => retN X0 hx (t := .boolean) Bd.returns (by simp) (hb hby d1_86) hr) ?_
              rw [e0]
              have q : OChar p1 p2 := by clear hw; simp only [OChar, OIn, Int32.lt_iff_toInt_lt, ← Int32.toInt_inj, Int32.reduceToInt] at *; omega
              exact ⟨by rw [oChar, if_pos q], N0, rfl⟩
        · -- pc 32: not p1 = (13 : Int32)
          refine own_st (F' := s₁.setTop (mkF m 39 #[.val (.int p1), .val (.int p2), .unset] [])) (fun t_ kk => XS.icmpYes X0.here hx rfl (pc0 := 32) (pc' := 39) rfl (hb hby d1_32) rfl (feq hc20).2 (by decide) (by decide) kk) ?_
          refine own_st (F' := s₁.setTop (mkF m 40 #[.val (.int p1), .val (.int p2), .unset] [(.int (0 : Int32))])) (fun t_ kk => XS.iconst X0.here hx rfl (hb hby d1_39) kk) ?_
          refine own_st (F' := s₁.setTop (mkF m 41 #[.val (.int p1), .val (.int p2), .val (.int (0 : Int32))] [])) (fun t_ kk => XS.istoreN X0.here hx rfl (hb hby d1_40) rfl (l' := #[.val (.int p1), .val (.int p2), .val (.int (0 : Int32))]) rfl kk) ?_
          refine own_st (F' := s₁.setTop (mkF m 42 #[.val (.int p1), .val (.int p2), .val (.int (0 : Int32))] [(.int p1)])) (fun t_ kk => XS.iloadN X0.here hx rfl (hb hby d1_41) rfl kk) ?_
          refine own_st (F' := s₁.setTop (mkF m 44 #[.val (.int p1), .val (.int p2), .val (.int (0 : Int32))] [(.int (32 : Int32)), (.int p1)])) (fun t_ kk => XS.bipush X0.here hx rfl (hb hby d1_42) kk) ?_
          by_cases hc29 : p1 < (32 : Int32)
          · -- pc 44: p1 < (32 : Int32)
            refine own_st (F' := s₁.setTop (mkF m 47 #[.val (.int p1), .val (.int p2), .val (.int (0 : Int32))] [])) (fun t_ kk => XS.icmpNo X0.here hx rfl (hb hby d1_44) rfl (tlt hc29).2.1 kk) ?_
            refine own_st (F' := s₁.setTop (mkF m 48 #[.val (.int p1), .val (.int p2), .val (.int (0 : Int32))] [(.int (0 : Int32))])) (fun t_ kk => XS.iloadN X0.here hx rfl (hb hby d1_47) rfl kk) ?_
            refine own_st (F' := s₁.setTop (mkF m 86 #[.val (.int p1), .val (.int p2), .val (.int (0 : Int32))] [(.int (0 : Int32))])) (fun t_ kk => XS.goto X0.here hx rfl (pc0 := 48) (pc' := 86) rfl (hb hby d1_48) (by decide) (by decide) kk) ?_
            refine own_fin X0 (some (.int (0 : Int32))) (fun h => by rw [Bd.returns] at h; cases h) Bd.notSynchronized (by decide) (by decide) (fun fs hr => retN X0 hx (t := .boolean) Bd.returns (by simp) (hb hby d1_86) hr) ?_
            rw [e0]
            have q : ¬ OChar p1 p2 := by clear hw; simp only [OChar, OIn, Int32.lt_iff_toInt_lt, ← Int32.toInt_inj, Int32.reduceToInt] at *; omega
            exact ⟨by rw [oChar, if_neg q], N0, rfl⟩
          · -- pc 44: not p1 < (32 : Int32)
            refine own_st (F' := s₁.setTop (mkF m 51 #[.val (.int p1), .val (.int p2), .val (.int (0 : Int32))] [])) (fun t_ kk => XS.icmpYes X0.here hx rfl (pc0 := 44) (pc' := 51) rfl (hb hby d1_44) rfl (flt hc29).2.1 (by decide) (by decide) kk) ?_
            refine own_st (F' := s₁.setTop (mkF m 52 #[.val (.int p1), .val (.int p2), .val (.int (0 : Int32))] [(.int p1)])) (fun t_ kk => XS.iloadN X0.here hx rfl (hb hby d1_51) rfl kk) ?_
            refine own_st (F' := s₁.setTop (mkF m 54 #[.val (.int p1), .val (.int p2), .val (.int (0 : Int32))] [(.int (55295 : Int32)), (.int p1)])) (X0.ldcInt hx hown (mvT hZ (hw _ (List.mem_of_getElem? (i := 19) rfl))) (g := (mkF m 52 #[.val (.int p1), .val (.int p2), .val (.int (0 : Int32))] [(.int p1)])) rfl (hb hby d1_52)) ?_
            by_cases hc30 : (55295 : Int32) < p1
            · -- pc 54: (55295 : Int32) < p1
              refine own_st (F' := s₁.setTop (mkF m 57 #[.val (.int p1), .val (.int p2), .val (.int (0 : Int32))] [])) (fun t_ kk => XS.icmpNo X0.here hx rfl (hb hby d1_54) rfl (tlt hc30).2.2.2 kk) ?_
              refine own_st (F' := s₁.setTop (mkF m 58 #[.val (.int p1), .val (.int p2), .val (.int (0 : Int32))] [(.int p1)])) (fun t_ kk => XS.iloadN X0.here hx rfl (hb hby d1_57) rfl kk) ?_
              refine own_st (F' := s₁.setTop (mkF m 60 #[.val (.int p1), .val (.int p2), .val (.int (0 : Int32))] [(.int (57344 : Int32)), (.int p1)])) (X0.ldcInt hx hown (mvT hZ (hw _ (List.mem_of_getElem? (i := 20) rfl))) (g := (mkF m 58 #[.val (.int p1), .val (.int p2), .val (.int (0 : Int32))] [(.int p1)])) rfl (hb hby d1_58)) ?_
              by_cases hc31 : p1 < (57344 : Int32)
              · -- pc 60: p1 < (57344 : Int32)
                refine own_st (F' := s₁.setTop (mkF m 69 #[.val (.int p1), .val (.int p2), .val (.int (0 : Int32))] [])) (fun t_ kk => XS.icmpYes X0.here hx rfl (pc0 := 60) (pc' := 69) rfl (hb hby d1_60) rfl (tlt hc31).1 (by decide) (by decide) kk) ?_
                refine own_st (F' := s₁.setTop (mkF m 70 #[.val (.int p1), .val (.int p2), .val (.int (0 : Int32))] [(.int p1)])) (fun t_ kk => XS.iloadN X0.here hx rfl (hb hby d1_69) rfl kk) ?_
                refine own_st (F' := s₁.setTop (mkF m 72 #[.val (.int p1), .val (.int p2), .val (.int (0 : Int32))] [(.int (65536 : Int32)), (.int p1)])) (X0.ldcInt hx hown (mvT hZ (hw _ (List.mem_of_getElem? (i := 22) rfl))) (g := (mkF m 70 #[.val (.int p1), .val (.int p2), .val (.int (0 : Int32))] [(.int p1)])) rfl (hb hby d1_70)) ?_
                by_cases hc32 : p1 < (65536 : Int32)
                · -- pc 72: p1 < (65536 : Int32)
                  refine own_st (F' := s₁.setTop (mkF m 85 #[.val (.int p1), .val (.int p2), .val (.int (0 : Int32))] [])) (fun t_ kk => XS.icmpYes X0.here hx rfl (pc0 := 72) (pc' := 85) rfl (hb hby d1_72) rfl (tlt hc32).1 (by decide) (by decide) kk) ?_
                  refine own_st (F' := s₁.setTop (mkF m 86 #[.val (.int p1), .val (.int p2), .val (.int (0 : Int32))] [(.int (0 : Int32))])) (fun t_ kk => XS.iconst X0.here hx rfl (hb hby d1_85) kk) ?_
                  refine own_fin X0 (some (.int (0 : Int32))) (fun h => by rw [Bd.returns] at h; cases h) Bd.notSynchronized (by decide) (by decide) (fun fs hr => retN X0 hx (t := .boolean) Bd.returns (by simp) (hb hby d1_86) hr) ?_
                  rw [e0]
                  have q : ¬ OChar p1 p2 := by clear hw; simp only [OChar, OIn, Int32.lt_iff_toInt_lt, ← Int32.toInt_inj, Int32.reduceToInt] at *; omega
                  exact ⟨by rw [oChar, if_neg q], N0, rfl⟩
                · -- pc 72: not p1 < (65536 : Int32)
                  refine own_st (F' := s₁.setTop (mkF m 75 #[.val (.int p1), .val (.int p2), .val (.int (0 : Int32))] [])) (fun t_ kk => XS.icmpNo X0.here hx rfl (hb hby d1_72) rfl (flt hc32).1 kk) ?_
                  refine own_st (F' := s₁.setTop (mkF m 76 #[.val (.int p1), .val (.int p2), .val (.int (0 : Int32))] [(.int p1)])) (fun t_ kk => XS.iloadN X0.here hx rfl (hb hby d1_75) rfl kk) ?_
                  refine own_st (F' := s₁.setTop (mkF m 78 #[.val (.int p1), .val (.int p2), .val (.int (0 : Int32))] [(.int (1114111 : Int32)), (.int p1)])) (X0.ldcInt hx hown (mvT hZ (hw _ (List.mem_of_getElem? (i := 23) rfl))) (g := (mkF m 76 #[.val (.int p1), .val (.int p2), .val (.int (0 : Int32))] [(.int p1)])) rfl (hb hby d1_76)) ?_
                  by_cases hc33 : (1114111 : Int32) < p1
                  · -- pc 78: (1114111 : Int32) < p1
                    refine own_st (F' := s₁.setTop (mkF m 85 #[.val (.int p1), .val (.int p2), .val (.int (0 : Int32))] [])) (fun t_ kk => XS.icmpYes X0.here hx rfl (pc0 := 78) (pc' := 85) rfl (hb hby d1_78) rfl (tlt hc33).2.2.1 (by decide) (by decide) kk) ?_
                    refine own_st (F' := s₁.setTop (mkF m 86 #[.val (.int p1), .val (.int p2), .val (.int (0 : Int32))] [(.int (0 : Int32))])) (fun t_ kk => XS.iconst X0.here hx rfl (hb hby d1_85) kk) ?_
                    refine own_fin X0 (some (.int (0 : Int32))) (fun h => by rw [Bd.returns] at h; cases h) Bd.notSynchronized (by decide) (by decide) (fun fs hr => retN X0 hx (t := .boolean) Bd.returns (by simp) (hb hby d1_86) hr) ?_
                    rw [e0]
                    have q : ¬ OChar p1 p2 := by clear hw; simp only [OChar, OIn, Int32.lt_iff_toInt_lt, ← Int32.toInt_inj, Int32.reduceToInt] at *; omega
                    exact ⟨by rw [oChar, if_neg q], N0, rfl⟩
                  · -- pc 78: not (1114111 : Int32) < p1
                    refine own_st (F' := s₁.setTop (mkF m 81 #[.val (.int p1), .val (.int p2), .val (.int (0 : Int32))] [])) (fun t_ kk => XS.icmpNo X0.here hx rfl (hb hby d1_78) rfl (flt hc33).2.2.1 kk) ?_
                    refine own_st (F' := s₁.setTop (mkF m 82 #[.val (.int p1), .val (.int p2), .val (.int (0 : Int32))] [(.int (1 : Int32))])) (fun t_ kk => XS.iconst X0.here hx rfl (hb hby d1_81) kk) ?_
                    refine own_st (F' := s₁.setTop (mkF m 86 #[.val (.int p1), .val (.int p2), .val (.int (0 : Int32))] [(.int (1 : Int32))])) (fun t_ kk => XS.goto X0.here hx rfl (pc0 := 82) (pc' := 86) rfl (hb hby d1_82) (by decide) (by decide) kk) ?_
                    refine own_fin X0 (some (.int (1 : Int32))) (fun h => by rw [Bd.returns] at h; cases h) Bd.notSynchronized (by decide) (by decide) (fun fs hr => retN X0 hx (t := .boolean) Bd.returns (by simp) (hb hby d1_86) hr) ?_
                    rw [e0]
                    have q : OChar p1 p2 := by clear hw; simp only [OChar, OIn, Int32.lt_iff_toInt_lt, ← Int32.toInt_inj, Int32.reduceToInt] at *; omega
                    exact ⟨by rw [oChar, if_pos q], N0, rfl⟩
              · -- pc 60: not p1 < (57344 : Int32)
                refine own_st (F' := s₁.setTop (mkF m 63 #[.val (.int p1), .val (.int p2), .val (.int (0 : Int32))] [])) (fun t_ kk => XS.icmpNo X0.here hx rfl (hb hby d1_60) rfl (flt hc31).1 kk) ?_
                refine own_st (F' := s₁.setTop (mkF m 64 #[.val (.int p1), .val (.int p2), .val (.int (0 : Int32))] [(.int p1)])) (fun t_ kk => XS.iloadN X0.here hx rfl (hb hby d1_63) rfl kk) ?_
                refine own_st (F' := s₁.setTop (mkF m 66 #[.val (.int p1), .val (.int p2), .val (.int (0 : Int32))] [(.int (65533 : Int32)), (.int p1)])) (X0.ldcInt hx hown (mvT hZ (hw _ (List.mem_of_getElem? (i := 21) rfl))) (g := (mkF m 64 #[.val (.int p1), .val (.int p2), .val (.int (0 : Int32))] [(.int p1)])) rfl (hb hby d1_64)) ?_
                by_cases hc34 : (65533 : Int32) < p1
                · -- pc 66: (65533 : Int32) < p1
                  refine own_st (F' := s₁.setTop (mkF m 69 #[.val (.int p1), .val (.int p2), .val (.int (0 : Int32))] [])) (fun t_ kk => XS.icmpNo X0.here hx rfl (hb hby d1_66) rfl (tlt hc34).2.2.2 kk) ?_
                  refine own_st (F' := s₁.setTop (mkF m 70 #[.val (.int p1), .val (.int p2), .val (.int (0 : Int32))] [(.int p1)])) (fun t_ kk => XS.iloadN X0.here hx rfl (hb hby d1_69) rfl kk) ?_
                  refine own_st (F' := s₁.setTop (mkF m 72 #[.val (.int p1), .val (.int p2), .val (.int (0 : Int32))] [(.int (65536 : Int32)), (.int p1)])) (X0.ldcInt hx hown (mvT hZ (hw _ (List.mem_of_getElem? (i := 22) rfl))) (g := (mkF m 70 #[.val (.int p1), .val (.int p2), .val (.int (0 : Int32))] [(.int p1)])) rfl (hb hby d1_70)) ?_
                  by_cases hc35 : p1 < (65536 : Int32)
                  · -- pc 72: p1 < (65536 : Int32)
                    refine own_st (F' := s₁.setTop (mkF m 85 #[.val (.int p1), .val (.int p2), .val (.int (0 : Int32))] [])) (fun t_ kk => XS.icmpYes X0.here hx rfl (pc0 := 72) (pc' := 85) rfl (hb hby d1_72) rfl (tlt hc35).1 (by decide) (by decide) kk) ?_
                    refine own_st (F' := s₁.setTop (mkF m 86 #[.val (.int p1), .val (.int p2), .val (.int (0 : Int32))] [(.int (0 : Int32))])) (fun t_ kk => XS.iconst X0.here hx rfl (hb hby d1_85) kk) ?_
                    refine own_fin X0 (some (.int (0 : Int32))) (fun h => by rw [Bd.returns] at h; cases h) Bd.notSynchronized (by decide) (by decide) (fun fs hr => retN X0 hx (t := .boolean) Bd.returns (by simp) (hb hby d1_86) hr) ?_
                    rw [e0]
                    have q : ¬ OChar p1 p2 := by clear hw; simp only [OChar, OIn, Int32.lt_iff_toInt_lt, ← Int32.toInt_inj, Int32.reduceToInt] at *; omega
                    exact ⟨by rw [oChar, if_neg q], N0, rfl⟩
                  · -- pc 72: not p1 < (65536 : Int32)
                    refine own_st (F' := s₁.setTop (mkF m 75 #[.val (.int p1), .val (.int p2), .val (.int (0 : Int32))] [])) (fun t_ kk => XS.icmpNo X0.here hx rfl (hb hby d1_72) rfl (flt hc35).1 kk) ?_
                    refine own_st (F' := s₁.setTop (mkF m 76 #[.val (.int p1), .val (.int p2), .val (.int (0 : Int32))] [(.int p1)])) (fun t_ kk => XS.iloadN X0.here hx rfl (hb hby d1_75) rfl kk) ?_
                    refine own_st (F' := s₁.setTop (mkF m 78 #[.val (.int p1), .val (.int p2), .val (.int (0 : Int32))] [(.int (1114111 : Int32)), (.int p1)])) (X0.ldcInt hx hown (mvT hZ (hw _ (List.mem_of_getElem? (i := 23) rfl))) (g := (mkF m 76 #[.val (.int p1), .val (.int p2), .val (.int (0 : Int32))] [(.int p1)])) rfl (hb hby d1_76)) ?_
                    by_cases hc36 : (1114111 : Int32) < p1
                    · -- pc 78: (1114111 : Int32) < p1
                      refine own_st (F' := s₁.setTop (mkF m 85 #[.val (.int p1), .val (.int p2), .val (.int (0 : Int32))] [])) (fun t_ kk => XS.icmpYes X0.here hx rfl (pc0 := 78) (pc' := 85) rfl (hb hby d1_78) rfl (tlt hc36).2.2.1 (by decide) (by decide) kk) ?_
                      refine own_st (F' := s₁.setTop (mkF m 86 #[.val (.int p1), .val (.int p2), .val (.int (0 : Int32))] [(.int (0 : Int32))])) (fun t_ kk => XS.iconst X0.here hx rfl (hb hby d1_85) kk) ?_
                      refine own_fin X0 (some (.int (0 : Int32))) (fun h => by rw [Bd.returns] at h; cases h) Bd.notSynchronized (by decide) (by decide) (fun fs hr => retN X0 hx (t := .boolean) Bd.returns (by simp) (hb hby d1_86) hr) ?_
                      rw [e0]
                      have q : ¬ OChar p1 p2 := by clear hw; simp only [OChar, OIn, Int32.lt_iff_toInt_lt, ← Int32.toInt_inj, Int32.reduceToInt] at *; omega
                      exact ⟨by rw [oChar, if_neg q], N0, rfl⟩
                    · -- pc 78: not (1114111 : Int32) < p1
                      refine own_st (F' := s₁.setTop (mkF m 81 #[.val (.int p1), .val (.int p2), .val (.int (0 : Int32))] [])) (fun t_ kk => XS.icmpNo X0.here hx rfl (hb hby d1_78) rfl (flt hc36).2.2.1 kk) ?_
                      refine own_st (F' := s₁.setTop (mkF m 82 #[.val (.int p1), .val (.int p2), .val (.int (0 : Int32))] [(.int (1 : Int32))])) (fun t_ kk => XS.iconst X0.here hx rfl (hb hby d1_81) kk) ?_
                      refine own_st (F' := s₁.setTop (mkF m 86 #[.val (.int p1), .val (.int p2), .val (.int (0 : Int32))] [(.int (1 : Int32))])) (fun t_ kk => XS.goto X0.here hx rfl (pc0 := 82) (pc' := 86) rfl (hb hby d1_82) (by decide) (by decide) kk) ?_
                      refine own_fin X0 (some (.int (1 : Int32))) (fun h => by rw [Bd.returns] at h; cases h) Bd.notSynchronized (by decide) (by decide) (fun fs hr => retN X0 hx (t := .boolean) Bd.returns (by simp) (hb hby d1_86) hr) ?_
                      rw [e0]
                      have q : OChar p1 p2 := by clear hw; simp only [OChar, OIn, Int32.lt_iff_toInt_lt, ← Int32.toInt_inj, Int32.reduceToInt] at *; omega
                      exact ⟨by rw [oChar, if_pos q], N0, rfl⟩
                · -- pc 66: not (65533 : Int32) < p1
                  refine own_st (F' := s₁.setTop (mkF m 81 #[.val (.int p1), .val (.int p2), .val (.int (0 : Int32))] [])) (fun t_ kk => XS.icmpYes X0.here hx rfl (pc0 := 66) (pc' := 81) rfl (hb hby d1_66) rfl (flt hc34).2.2.2 (by decide) (by decide) kk) ?_
                  refine own_st (F' := s₁.setTop (mkF m 82 #[.val (.int p1), .val (.int p2), .val (.int (0 : Int32))] [(.int (1 : Int32))])) (fun t_ kk => XS.iconst X0.here hx rfl (hb hby d1_81) kk) ?_
                  refine own_st (F' := s₁.setTop (mkF m 86 #[.val (.int p1), .val (.int p2), .val (.int (0 : Int32))] [(.int (1 : Int32))])) (fun t_ kk => XS.goto X0.here hx rfl (pc0 := 82) (pc' := 86) rfl (hb hby d1_82) (by decide) (by decide) kk) ?_
                  refine own_fin X0 (some (.int (1 : Int32))) (fun h => by rw [Bd.returns] at h; cases h) Bd.notSynchronized (by decide) (by decide) (fun fs hr => retN X0 hx (t := .boolean) Bd.returns (by simp) (hb hby d1_86) hr) ?_
                  rw [e0]
                  have q : OChar p1 p2 := by clear hw; simp only [OChar, OIn, Int32.lt_iff_toInt_lt, ← Int32.toInt_inj, Int32.reduceToInt] at *; omega
                  exact ⟨by rw [oChar, if_pos q], N0, rfl⟩
            · -- pc 54: not (55295 : Int32) < p1
              refine own_st (F' := s₁.setTop (mkF m 81 #[.val (.int p1), .val (.int p2), .val (.int (0 : Int32))] [])) (fun t_ kk => XS.icmpYes X0.here hx rfl (pc0 := 54) (pc' := 81) rfl (hb hby d1_54) rfl (flt hc30).2.2.2 (by decide) (by decide) kk) ?_
              refine own_st (F' := s₁.setTop (mkF m 82 #[.val (.int p1), .val (.int p2), .val (.int (0 : Int32))] [(.int (1 : Int32))])) (fun t_ kk => XS.iconst X0.here hx rfl (hb hby d1_81) kk) ?_
              refine own_st (F' := s₁.setTop (mkF m 86 #[.val (.int p1), .val (.int p2), .val (.int (0 : Int32))] [(.int (1 : Int32))])) (fun t_ kk => XS.goto X0.here hx rfl (pc0 := 82) (pc' := 86) rfl (hb hby d1_82) (by decide) (by decide) kk) ?_
              refine own_fin X0 (some (.int (1 : Int32))) (fun h => by rw [Bd.returns] at h; cases h) Bd.notSynchronized (by decide) (by decide) (fun fs hr => retN X0 hx (t := .boolean) Bd.returns (by simp) (hb hby d1_86) hr) ?_
              rw [e0]
              have q : OChar p1 p2 := by clear hw; simp only [OChar, OIn, Int32.lt_iff_toInt_lt, ← Int32.toInt_inj, Int32.reduceToInt] at *; omega
              exact ⟨by rw [oChar, if_pos q], N0, rfl⟩
  · -- pc 1: not p2 = (0 : Int32)
    refine own_st (F' := s₁.setTop (mkF m 4 #[.val (.int p1), .val (.int p2), .unset] [])) (fun t_ kk => XS.ifNo X0.here hx rfl (hb hby d1_1) rfl ((if0 _ _).trans (feq hc1).1) kk) ?_
    refine own_st (F' := s₁.setTop (mkF m 5 #[.val (.int p1), .val (.int p2), .unset] [(.int p1)])) (fun t_ kk => XS.iloadN X0.here hx rfl (hb hby d1_4) rfl kk) ?_
    refine own_st (F' := s₁.setTop (mkF m 6 #[.val (.int p1), .val (.int p2), .unset] [(.int (1 : Int32)), (.int p1)])) (fun t_ kk => XS.iconst X0.here hx rfl (hb hby d1_5) kk) ?_
    by_cases hc37 : p1 < (1 : Int32)
    · -- pc 6: p1 < (1 : Int32)
      refine own_st (F' := s₁.setTop (mkF m 13 #[.val (.int p1), .val (.int p2), .unset] [])) (fun t_ kk => XS.icmpYes X0.here hx rfl (pc0 := 6) (pc' := 13) rfl (hb hby d1_6) rfl (tlt hc37).1 (by decide) (by decide) kk) ?_
      refine own_st (F' := s₁.setTop (mkF m 14 #[.val (.int p1), .val (.int p2), .unset] [(.int (0 : Int32))])) (fun t_ kk => XS.iconst X0.here hx rfl (hb hby d1_13) kk) ?_
      refine own_st (F' := s₁.setTop (mkF m 40 #[.val (.int p1), .val (.int p2), .unset] [(.int (0 : Int32))])) (fun t_ kk => XS.goto X0.here hx rfl (pc0 := 14) (pc' := 40) rfl (hb hby d1_14) (by decide) (by decide) kk) ?_
      refine own_st (F' := s₁.setTop (mkF m 41 #[.val (.int p1), .val (.int p2), .val (.int (0 : Int32))] [])) (fun t_ kk => XS.istoreN X0.here hx rfl (hb hby d1_40) rfl (l' := #[.val (.int p1), .val (.int p2), .val (.int (0 : Int32))]) rfl kk) ?_
      refine own_st (F' := s₁.setTop (mkF m 42 #[.val (.int p1), .val (.int p2), .val (.int (0 : Int32))] [(.int p1)])) (fun t_ kk => XS.iloadN X0.here hx rfl (hb hby d1_41) rfl kk) ?_
      refine own_st (F' := s₁.setTop (mkF m 44 #[.val (.int p1), .val (.int p2), .val (.int (0 : Int32))] [(.int (32 : Int32)), (.int p1)])) (fun t_ kk => XS.bipush X0.here hx rfl (hb hby d1_42) kk) ?_
      by_cases hc38 : p1 < (32 : Int32)
      · -- pc 44: p1 < (32 : Int32)
        refine own_st (F' := s₁.setTop (mkF m 47 #[.val (.int p1), .val (.int p2), .val (.int (0 : Int32))] [])) (fun t_ kk => XS.icmpNo X0.here hx rfl (hb hby d1_44) rfl (tlt hc38).2.1 kk) ?_
        refine own_st (F' := s₁.setTop (mkF m 48 #[.val (.int p1), .val (.int p2), .val (.int (0 : Int32))] [(.int (0 : Int32))])) (fun t_ kk => XS.iloadN X0.here hx rfl (hb hby d1_47) rfl kk) ?_
        refine own_st (F' := s₁.setTop (mkF m 86 #[.val (.int p1), .val (.int p2), .val (.int (0 : Int32))] [(.int (0 : Int32))])) (fun t_ kk => XS.goto X0.here hx rfl (pc0 := 48) (pc' := 86) rfl (hb hby d1_48) (by decide) (by decide) kk) ?_
        refine own_fin X0 (some (.int (0 : Int32))) (fun h => by rw [Bd.returns] at h; cases h) Bd.notSynchronized (by decide) (by decide) (fun fs hr => retN X0 hx (t := .boolean) Bd.returns (by simp) (hb hby d1_86) hr) ?_
        rw [e0]
        have q : ¬ OChar p1 p2 := by clear hw; simp only [OChar, OIn, Int32.lt_iff_toInt_lt, ← Int32.toInt_inj, Int32.reduceToInt] at *; omega
        exact ⟨by rw [oChar, if_neg q], N0, rfl⟩
      · -- pc 44: not p1 < (32 : Int32)
        refine own_st (F' := s₁.setTop (mkF m 51 #[.val (.int p1), .val (.int p2), .val (.int (0 : Int32))] [])) (fun t_ kk => XS.icmpYes X0.here hx rfl (pc0 := 44) (pc' := 51) rfl (hb hby d1_44) rfl (flt hc38).2.1 (by decide) (by decide) kk) ?_
        refine own_st (F' := s₁.setTop (mkF m 52 #[.val (.int p1), .val (.int p2), .val (.int (0 : Int32))] [(.int p1)])) (fun t_ kk => XS.iloadN X0.here hx rfl (hb hby d1_51) rfl kk) ?_
        refine own_st (F' := s₁.setTop (mkF m 54 #[.val (.int p1), .val (.int p2), .val (.int (0 : Int32))] [(.int (55295 : Int32)), (.int p1)])) (X0.ldcInt hx hown (mvT hZ (hw _ (List.mem_of_getElem? (i := 19) rfl))) (g := (mkF m 52 #[.val (.int p1), .val (.int p2), .val (.int (0 : Int32))] [(.int p1)])) rfl (hb hby d1_52)) ?_
        by_cases hc39 : (55295 : Int32) < p1
        · -- pc 54: (55295 : Int32) < p1
          refine own_st (F' := s₁.setTop (mkF m 57 #[.val (.int p1), .val (.int p2), .val (.int (0 : Int32))] [])) (fun t_ kk => XS.icmpNo X0.here hx rfl (hb hby d1_54) rfl (tlt hc39).2.2.2 kk) ?_
          refine own_st (F' := s₁.setTop (mkF m 58 #[.val (.int p1), .val (.int p2), .val (.int (0 : Int32))] [(.int p1)])) (fun t_ kk => XS.iloadN X0.here hx rfl (hb hby d1_57) rfl kk) ?_
          refine own_st (F' := s₁.setTop (mkF m 60 #[.val (.int p1), .val (.int p2), .val (.int (0 : Int32))] [(.int (57344 : Int32)), (.int p1)])) (X0.ldcInt hx hown (mvT hZ (hw _ (List.mem_of_getElem? (i := 20) rfl))) (g := (mkF m 58 #[.val (.int p1), .val (.int p2), .val (.int (0 : Int32))] [(.int p1)])) rfl (hb hby d1_58)) ?_
          by_cases hc40 : p1 < (57344 : Int32)
          · -- pc 60: p1 < (57344 : Int32)
            refine own_st (F' := s₁.setTop (mkF m 69 #[.val (.int p1), .val (.int p2), .val (.int (0 : Int32))] [])) (fun t_ kk => XS.icmpYes X0.here hx rfl (pc0 := 60) (pc' := 69) rfl (hb hby d1_60) rfl (tlt hc40).1 (by decide) (by decide) kk) ?_
            refine own_st (F' := s₁.setTop (mkF m 70 #[.val (.int p1), .val (.int p2), .val (.int (0 : Int32))] [(.int p1)])) (fun t_ kk => XS.iloadN X0.here hx rfl (hb hby d1_69) rfl kk) ?_
            refine own_st (F' := s₁.setTop (mkF m 72 #[.val (.int p1), .val (.int p2), .val (.int (0 : Int32))] [(.int (65536 : Int32)), (.int p1)])) (X0.ldcInt hx hown (mvT hZ (hw _ (List.mem_of_getElem? (i := 22) rfl))) (g := (mkF m 70 #[.val (.int p1), .val (.int p2), .val (.int (0 : Int32))] [(.int p1)])) rfl (hb hby d1_70)) ?_
            by_cases hc41 : p1 < (65536 : Int32)
            · -- pc 72: p1 < (65536 : Int32)
              refine own_st (F' := s₁.setTop (mkF m 85 #[.val (.int p1), .val (.int p2), .val (.int (0 : Int32))] [])) (fun t_ kk => XS.icmpYes X0.here hx rfl (pc0 := 72) (pc' := 85) rfl (hb hby d1_72) rfl (tlt hc41).1 (by decide) (by decide) kk) ?_
              refine own_st (F' := s₁.setTop (mkF m 86 #[.val (.int p1), .val (.int p2), .val (.int (0 : Int32))] [(.int (0 : Int32))])) (fun t_ kk => XS.iconst X0.here hx rfl (hb hby d1_85) kk) ?_
              refine own_fin X0 (some (.int (0 : Int32))) (fun h => by rw [Bd.returns] at h; cases h) Bd.notSynchronized (by decide) (by decide) (fun fs hr => retN X0 hx (t := .boolean) Bd.returns (by simp) (hb hby d1_86) hr) ?_
              rw [e0]
              have q : ¬ OChar p1 p2 := by clear hw; simp only [OChar, OIn, Int32.lt_iff_toInt_lt, ← Int32.toInt_inj, Int32.reduceToInt] at *; omega
              exact ⟨by rw [oChar, if_neg q], N0, rfl⟩
            · -- pc 72: not p1 < (65536 : Int32)
              refine own_st (F' := s₁.setTop (mkF m 75 #[.val (.int p1), .val (.int p2), .val (.int (0 : Int32))] [])) (fun t_ kk => XS.icmpNo X0.here hx rfl (hb hby d1_72) rfl (flt hc41).1 kk) ?_
              refine own_st (F' := s₁.setTop (mkF m 76 #[.val (.int p1), .val (.int p2), .val (.int (0 : Int32))] [(.int p1)])) (fun t_ kk => XS.iloadN X0.here hx rfl (hb hby d1_75) rfl kk) ?_
              refine own_st (F' := s₁.setTop (mkF m 78 #[.val (.int p1), .val (.int p2), .val (.int (0 : Int32))] [(.int (1114111 : Int32)), (.int p1)])) (X0.ldcInt hx hown (mvT hZ (hw _ (List.mem_of_getElem? (i := 23) rfl))) (g := (mkF m 76 #[.val (.int p1), .val (.int p2), .val (.int (0 : Int32))] [(.int p1)])) rfl (hb hby d1_76)) ?_
              by_cases hc42 : (1114111 : Int32) < p1
              · -- pc 78: (1114111 : Int32) < p1
                refine own_st (F' := s₁.setTop (mkF m 85 #[.val (.int p1), .val (.int p2), .val (.int (0 : Int32))] [])) (fun t_ kk => XS.icmpYes X0.here hx rfl (pc0 := 78) (pc' := 85) rfl (hb hby d1_78) rfl (tlt hc42).2.2.1 (by decide) (by decide) kk) ?_
                refine own_st (F' := s₁.setTop (mkF m 86 #[.val (.int p1), .val (.int p2), .val (.int (0 : Int32))] [(.int (0 : Int32))])) (fun t_ kk => XS.iconst X0.here hx rfl (hb hby d1_85) kk) ?_
                refine own_fin X0 (some (.int (0 : Int32))) (fun h => by rw [Bd.returns] at h; cases h) Bd.notSynchronized (by decide) (by decide) (fun fs hr => retN X0 hx (t := .boolean) Bd.returns (by simp) (hb hby d1_86) hr) ?_
                rw [e0]
                have q : ¬ OChar p1 p2 := by clear hw; simp only [OChar, OIn, Int32.lt_iff_toInt_lt, ← Int32.toInt_inj, Int32.reduceToInt] at *; omega
                exact ⟨by rw [oChar, if_neg q], N0, rfl⟩
              · -- pc 78: not (1114111 : Int32) < p1
                refine own_st (F' := s₁.setTop (mkF m 81 #[.val (.int p1), .val (.int p2), .val (.int (0 : Int32))] [])) (fun t_ kk => XS.icmpNo X0.here hx rfl (hb hby d1_78) rfl (flt hc42).2.2.1 kk) ?_
                refine own_st (F' := s₁.setTop (mkF m 82 #[.val (.int p1), .val (.int p2), .val (.int (0 : Int32))] [(.int (1 : Int32))])) (fun t_ kk => XS.iconst X0.here hx rfl (hb hby d1_81) kk) ?_
                refine own_st (F' := s₁.setTop (mkF m 86 #[.val (.int p1), .val (.int p2), .val (.int (0 : Int32))] [(.int (1 : Int32))])) (fun t_ kk => XS.goto X0.here hx rfl (pc0 := 82) (pc' := 86) rfl (hb hby d1_82) (by decide) (by decide) kk) ?_
                refine own_fin X0 (some (.int (1 : Int32))) (fun h => by rw [Bd.returns] at h; cases h) Bd.notSynchronized (by decide) (by decide) (fun fs hr => retN X0 hx (t := .boolean) Bd.returns (by simp) (hb hby d1_86) hr) ?_
                rw [e0]
                have q : OChar p1 p2 := by clear hw; simp only [OChar, OIn, Int32.lt_iff_toInt_lt, ← Int32.toInt_inj, Int32.reduceToInt] at *; omega
                exact ⟨by rw [oChar, if_pos q], N0, rfl⟩
          · -- pc 60: not p1 < (57344 : Int32)
            refine own_st (F' := s₁.setTop (mkF m 63 #[.val (.int p1), .val (.int p2), .val (.int (0 : Int32))] [])) (fun t_ kk => XS.icmpNo X0.here hx rfl (hb hby d1_60) rfl (flt hc40).1 kk) ?_
            refine own_st (F' := s₁.setTop (mkF m 64 #[.val (.int p1), .val (.int p2), .val (.int (0 : Int32))] [(.int p1)])) (fun t_ kk => XS.iloadN X0.here hx rfl (hb hby d1_63) rfl kk) ?_
            refine own_st (F' := s₁.setTop (mkF m 66 #[.val (.int p1), .val (.int p2), .val (.int (0 : Int32))] [(.int (65533 : Int32)), (.int p1)])) (X0.ldcInt hx hown (mvT hZ (hw _ (List.mem_of_getElem? (i := 21) rfl))) (g := (mkF m 64 #[.val (.int p1), .val (.int p2), .val (.int (0 : Int32))] [(.int p1)])) rfl (hb hby d1_64)) ?_
            by_cases hc43 : (65533 : Int32) < p1
            · -- pc 66: (65533 : Int32) < p1
              refine own_st (F' := s₁.setTop (mkF m 69 #[.val (.int p1), .val (.int p2), .val (.int (0 : Int32))] [])) (fun t_ kk => XS.icmpNo X0.here hx rfl (hb hby d1_66) rfl (tlt hc43).2.2.2 kk) ?_
              refine own_st (F' := s₁.setTop (mkF m 70 #[.val (.int p1), .val (.int p2), .val (.int (0 : Int32))] [(.int p1)])) (fun t_ kk => XS.iloadN X0.here hx rfl (hb hby d1_69) rfl kk) ?_
              refine own_st (F' := s₁.setTop (mkF m 72 #[.val (.int p1), .val (.int p2), .val (.int (0 : Int32))] [(.int (65536 : Int32)), (.int p1)])) (X0.ldcInt hx hown (mvT hZ (hw _ (List.mem_of_getElem? (i := 22) rfl))) (g := (mkF m 70 #[.val (.int p1), .val (.int p2), .val (.int (0 : Int32))] [(.int p1)])) rfl (hb hby d1_70)) ?_
              by_cases hc44 : p1 < (65536 : Int32)
              · -- pc 72: p1 < (65536 : Int32)
                refine own_st (F' := s₁.setTop (mkF m 85 #[.val (.int p1), .val (.int p2), .val (.int (0 : Int32))] [])) (fun t_ kk => XS.icmpYes X0.here hx rfl (pc0 := 72) (pc' := 85) rfl (hb hby d1_72) rfl (tlt hc44).1 (by decide) (by decide) kk) ?_
                refine own_st (F' := s₁.setTop (mkF m 86 #[.val (.int p1), .val (.int p2), .val (.int (0 : Int32))] [(.int (0 : Int32))])) (fun t_ kk => XS.iconst X0.here hx rfl (hb hby d1_85) kk) ?_
                refine own_fin X0 (some (.int (0 : Int32))) (fun h => by rw [Bd.returns] at h; cases h) Bd.notSynchronized (by decide) (by decide) (fun fs hr => retN X0 hx (t := .boolean) Bd.returns (by simp) (hb hby d1_86) hr) ?_
                rw [e0]
                have q : ¬ OChar p1 p2 := by clear hw; simp only [OChar, OIn, Int32.lt_iff_toInt_lt, ← Int32.toInt_inj, Int32.reduceToInt] at *; omega
                exact ⟨by rw [oChar, if_neg q], N0, rfl⟩
              · -- pc 72: not p1 < (65536 : Int32)
                refine own_st (F' := s₁.setTop (mkF m 75 #[.val (.int p1), .val (.int p2), .val (.int (0 : Int32))] [])) (fun t_ kk => XS.icmpNo X0.here hx rfl (hb hby d1_72) rfl (flt hc44).1 kk) ?_
                refine own_st (F' := s₁.setTop (mkF m 76 #[.val (.int p1), .val (.int p2), .val (.int (0 : Int32))] [(.int p1)])) (fun t_ kk => XS.iloadN X0.here hx rfl (hb hby d1_75) rfl kk) ?_
                refine own_st (F' := s₁.setTop (mkF m 78 #[.val (.int p1), .val (.int p2), .val (.int (0 : Int32))] [(.int (1114111 : Int32)), (.int p1)])) (X0.ldcInt hx hown (mvT hZ (hw _ (List.mem_of_getElem? (i := 23) rfl))) (g := (mkF m 76 #[.val (.int p1), .val (.int p2), .val (.int (0 : Int32))] [(.int p1)])) rfl (hb hby d1_76)) ?_
                by_cases hc45 : (1114111 : Int32) < p1
                · -- pc 78: (1114111 : Int32) < p1
                  refine own_st (F' := s₁.setTop (mkF m 85 #[.val (.int p1), .val (.int p2), .val (.int (0 : Int32))] [])) (fun t_ kk => XS.icmpYes X0.here hx rfl (pc0 := 78) (pc' := 85) rfl (hb hby d1_78) rfl (tlt hc45).2.2.1 (by decide) (by decide) kk) ?_
                  refine own_st (F' := s₁.setTop (mkF m 86 #[.val (.int p1), .val (.int p2), .val (.int (0 : Int32))] [(.int (0 : Int32))])) (fun t_ kk => XS.iconst X0.here hx rfl (hb hby d1_85) kk) ?_
                  refine own_fin X0 (some (.int (0 : Int32))) (fun h => by rw [Bd.returns] at h; cases h) Bd.notSynchronized (by decide) (by decide) (fun fs hr => retN X0 hx (t := .boolean) Bd.returns (by simp) (hb hby d1_86) hr) ?_
                  rw [e0]
                  have q : ¬ OChar p1 p2 := by clear hw; simp only [OChar, OIn, Int32.lt_iff_toInt_lt, ← Int32.toInt_inj, Int32.reduceToInt] at *; omega
                  exact ⟨by rw [oChar, if_neg q], N0, rfl⟩
                · -- pc 78: not (1114111 : Int32) < p1
                  refine own_st (F' := s₁.setTop (mkF m 81 #[.val (.int p1), .val (.int p2), .val (.int (0 : Int32))] [])) (fun t_ kk => XS.icmpNo X0.here hx rfl (hb hby d1_78) rfl (flt hc45).2.2.1 kk) ?_
                  refine own_st (F' := s₁.setTop (mkF m 82 #[.val (.int p1), .val (.int p2), .val (.int (0 : Int32))] [(.int (1 : Int32))])) (fun t_ kk => XS.iconst X0.here hx rfl (hb hby d1_81) kk) ?_
                  refine own_st (F' := s₁.setTop (mkF m 86 #[.val (.int p1), .val (.int p2), .val (.int (0 : Int32))] [(.int (1 : Int32))])) (fun t_ kk => XS.goto X0.here hx rfl (pc0 := 82) (pc' := 86) rfl (hb hby d1_82) (by decide) (by decide) kk) ?_
                  refine own_fin X0 (some (.int (1 : Int32))) (fun h => by rw [Bd.returns] at h; cases h) Bd.notSynchronized (by decide) (by decide) (fun fs hr => retN X0 hx (t := .boolean) Bd.returns (by simp) (hb hby d1_86) hr) ?_
                  rw [e0]
                  have q : OChar p1 p2 := by clear hw; simp only [OChar, OIn, Int32.lt_iff_toInt_lt, ← Int32.toInt_inj, Int32.reduceToInt] at *; omega
                  exact ⟨by rw [oChar, if_pos q], N0, rfl⟩
            · -- pc 66: not (65533 : Int32) < p1
              refine own_st (F' := s₁.setTop (mkF m 81 #[.val (.int p1), .val (.int p2), .val (.int (0 : Int32))] [])) (fun t_ kk => XS.icmpYes X0.here hx rfl (pc0 := 66) (pc' := 81) rfl (hb hby d1_66) rfl (flt hc43).2.2.2 (by decide) (by decide) kk) ?_
              refine own_st (F' := s₁.setTop (mkF m 82 #[.val (.int p1), .val (.int p2), .val (.int (0 : Int32))] [(.int (1 : Int32))])) (fun t_ kk => XS.iconst X0.here hx rfl (hb hby d1_81) kk) ?_
              refine own_st (F' := s₁.setTop (mkF m 86 #[.val (.int p1), .val (.int p2), .val (.int (0 : Int32))] [(.int (1 : Int32))])) (fun t_ kk => XS.goto X0.here hx rfl (pc0 := 82) (pc' := 86) rfl (hb hby d1_82) (by decide) (by decide) kk) ?_
              refine own_fin X0 (some (.int (1 : Int32))) (fun h => by rw [Bd.returns] at h; cases h) Bd.notSynchronized (by decide) (by decide) (fun fs hr => retN X0 hx (t := .boolean) Bd.returns (by simp) (hb hby d1_86) hr) ?_
              rw [e0]
              have q : OChar p1 p2 := by clear hw; simp only [OChar, OIn, Int32.lt_iff_toInt_lt, ← Int32.toInt_inj, Int32.reduceToInt] at *; omega
              exact ⟨by rw [oChar, if_pos q], N0, rfl⟩
        · -- pc 54: not (55295 : Int32) < p1
          refine own_st (F' := s₁.setTop (mkF m 81 #[.val (.int p1), .val (.int p2), .val (.int (0 : Int32))] [])) (fun t_ kk => XS.icmpYes X0.here hx rfl (pc0 := 54) (pc' := 81) rfl (hb hby d1_54) rfl (flt hc39).2.2.2 (by decide) (by decide) kk) ?_
          refine own_st (F' := s₁.setTop (mkF m 82 #[.val (.int p1), .val (.int p2), .val (.int (0 : Int32))] [(.int (1 : Int32))])) (fun t_ kk => XS.iconst X0.here hx rfl (hb hby d1_81) kk) ?_
          refine own_st (F' := s₁.setTop (mkF m 86 #[.val (.int p1), .val (.int p2), .val (.int (0 : Int32))] [(.int (1 : Int32))])) (fun t_ kk => XS.goto X0.here hx rfl (pc0 := 82) (pc' := 86) rfl (hb hby d1_82) (by decide) (by decide) kk) ?_
          refine own_fin X0 (some (.int (1 : Int32))) (fun h => by rw [Bd.returns] at h; cases h) Bd.notSynchronized (by decide) (by decide) (fun fs hr => retN X0 hx (t := .boolean) Bd.returns (by simp) (hb hby d1_86) hr) ?_
          rw [e0]
          have q : OChar p1 p2 := by clear hw; simp only [OChar, OIn, Int32.lt_iff_toInt_lt, ← Int32.toInt_inj, Int32.reduceToInt] at *; omega
          exact ⟨by rw [oChar, if_pos q], N0, rfl⟩
    · -- pc 6: not p1 < (1 : Int32)
      refine own_st (F' := s₁.setTop (mkF m 9 #[.val (.int p1), .val (.int p2), .unset] [])) (fun t_ kk => XS.icmpNo X0.here hx rfl (hb hby d1_6) rfl (flt hc37).1 kk) ?_
      refine own_st (F' := s₁.setTop (mkF m 10 #[.val (.int p1), .val (.int p2), .unset] [(.int (1 : Int32))])) (fun t_ kk => XS.iconst X0.here hx rfl (hb hby d1_9) kk) ?_
      refine own_st (F' := s₁.setTop (mkF m 40 #[.val (.int p1), .val (.int p2), .unset] [(.int (1 : Int32))])) (fun t_ kk => XS.goto X0.here hx rfl (pc0 := 10) (pc' := 40) rfl (hb hby d1_10) (by decide) (by decide) kk) ?_
      refine own_st (F' := s₁.setTop (mkF m 41 #[.val (.int p1), .val (.int p2), .val (.int (1 : Int32))] [])) (fun t_ kk => XS.istoreN X0.here hx rfl (hb hby d1_40) rfl (l' := #[.val (.int p1), .val (.int p2), .val (.int (1 : Int32))]) rfl kk) ?_
      refine own_st (F' := s₁.setTop (mkF m 42 #[.val (.int p1), .val (.int p2), .val (.int (1 : Int32))] [(.int p1)])) (fun t_ kk => XS.iloadN X0.here hx rfl (hb hby d1_41) rfl kk) ?_
      refine own_st (F' := s₁.setTop (mkF m 44 #[.val (.int p1), .val (.int p2), .val (.int (1 : Int32))] [(.int (32 : Int32)), (.int p1)])) (fun t_ kk => XS.bipush X0.here hx rfl (hb hby d1_42) kk) ?_
      by_cases hc46 : p1 < (32 : Int32)
      · -- pc 44: p1 < (32 : Int32)
        refine own_st (F' := s₁.setTop (mkF m 47 #[.val (.int p1), .val (.int p2), .val (.int (1 : Int32))] [])) (fun t_ kk => XS.icmpNo X0.here hx rfl (hb hby d1_44) rfl (tlt hc46).2.1 kk) ?_
        refine own_st (F' := s₁.setTop (mkF m 48 #[.val (.int p1), .val (.int p2), .val (.int (1 : Int32))] [(.int (1 : Int32))])) (fun t_ kk => XS.iloadN X0.here hx rfl (hb hby d1_47) rfl kk) ?_
        refine own_st (F' := s₁.setTop (mkF m 86 #[.val (.int p1), .val (.int p2), .val (.int (1 : Int32))] [(.int (1 : Int32))])) (fun t_ kk => XS.goto X0.here hx rfl (pc0 := 48) (pc' := 86) rfl (hb hby d1_48) (by decide) (by decide) kk) ?_
        refine own_fin X0 (some (.int (1 : Int32))) (fun h => by rw [Bd.returns] at h; cases h) Bd.notSynchronized (by decide) (by decide) (fun fs hr => retN X0 hx (t := .boolean) Bd.returns (by simp) (hb hby d1_86) hr) ?_
        rw [e0]
        have q : OChar p1 p2 := by clear hw; simp only [OChar, OIn, Int32.lt_iff_toInt_lt, ← Int32.toInt_inj, Int32.reduceToInt] at *; omega
        exact ⟨by rw [oChar, if_pos q], N0, rfl⟩
      · -- pc 44: not p1 < (32 : Int32)
        refine own_st (F' := s₁.setTop (mkF m 51 #[.val (.int p1), .val (.int p2), .val (.int (1 : Int32))] [])) (fun t_ kk => XS.icmpYes X0.here hx rfl (pc0 := 44) (pc' := 51) rfl (hb hby d1_44) rfl (flt hc46).2.1 (by decide) (by decide) kk) ?_
        refine own_st (F' := s₁.setTop (mkF m 52 #[.val (.int p1), .val (.int p2), .val (.int (1 : Int32))] [(.int p1)])) (fun t_ kk => XS.iloadN X0.here hx rfl (hb hby d1_51) rfl kk) ?_
        refine own_st (F' := s₁.setTop (mkF m 54 #[.val (.int p1), .val (.int p2), .val (.int (1 : Int32))] [(.int (55295 : Int32)), (.int p1)])) (X0.ldcInt hx hown (mvT hZ (hw _ (List.mem_of_getElem? (i := 19) rfl))) (g := (mkF m 52 #[.val (.int p1), .val (.int p2), .val (.int (1 : Int32))] [(.int p1)])) rfl (hb hby d1_52)) ?_
        by_cases hc47 : (55295 : Int32) < p1
        · -- pc 54: (55295 : Int32) < p1
          refine own_st (F' := s₁.setTop (mkF m 57 #[.val (.int p1), .val (.int p2), .val (.int (1 : Int32))] [])) (fun t_ kk => XS.icmpNo X0.here hx rfl (hb hby d1_54) rfl (tlt hc47).2.2.2 kk) ?_
          refine own_st (F' := s₁.setTop (mkF m 58 #[.val (.int p1), .val (.int p2), .val (.int (1 : Int32))] [(.int p1)])) (fun t_ kk => XS.iloadN X0.here hx rfl (hb hby d1_57) rfl kk) ?_
          refine own_st (F' := s₁.setTop (mkF m 60 #[.val (.int p1), .val (.int p2), .val (.int (1 : Int32))] [(.int (57344 : Int32)), (.int p1)])) (X0.ldcInt hx hown (mvT hZ (hw _ (List.mem_of_getElem? (i := 20) rfl))) (g := (mkF m 58 #[.val (.int p1), .val (.int p2), .val (.int (1 : Int32))] [(.int p1)])) rfl (hb hby d1_58)) ?_
          by_cases hc48 : p1 < (57344 : Int32)
          · -- pc 60: p1 < (57344 : Int32)
            refine own_st (F' := s₁.setTop (mkF m 69 #[.val (.int p1), .val (.int p2), .val (.int (1 : Int32))] [])) (fun t_ kk => XS.icmpYes X0.here hx rfl (pc0 := 60) (pc' := 69) rfl (hb hby d1_60) rfl (tlt hc48).1 (by decide) (by decide) kk) ?_
            refine own_st (F' := s₁.setTop (mkF m 70 #[.val (.int p1), .val (.int p2), .val (.int (1 : Int32))] [(.int p1)])) (fun t_ kk => XS.iloadN X0.here hx rfl (hb hby d1_69) rfl kk) ?_
            refine own_st (F' := s₁.setTop (mkF m 72 #[.val (.int p1), .val (.int p2), .val (.int (1 : Int32))] [(.int (65536 : Int32)), (.int p1)])) (X0.ldcInt hx hown (mvT hZ (hw _ (List.mem_of_getElem? (i := 22) rfl))) (g := (mkF m 70 #[.val (.int p1), .val (.int p2), .val (.int (1 : Int32))] [(.int p1)])) rfl (hb hby d1_70)) ?_
            by_cases hc49 : p1 < (65536 : Int32)
            · -- pc 72: p1 < (65536 : Int32)
              refine own_st (F' := s₁.setTop (mkF m 85 #[.val (.int p1), .val (.int p2), .val (.int (1 : Int32))] [])) (fun t_ kk => XS.icmpYes X0.here hx rfl (pc0 := 72) (pc' := 85) rfl (hb hby d1_72) rfl (tlt hc49).1 (by decide) (by decide) kk) ?_
              refine own_st (F' := s₁.setTop (mkF m 86 #[.val (.int p1), .val (.int p2), .val (.int (1 : Int32))] [(.int (0 : Int32))])) (fun t_ kk => XS.iconst X0.here hx rfl (hb hby d1_85) kk) ?_
              refine own_fin X0 (some (.int (0 : Int32))) (fun h => by rw [Bd.returns] at h; cases h) Bd.notSynchronized (by decide) (by decide) (fun fs hr => retN X0 hx (t := .boolean) Bd.returns (by simp) (hb hby d1_86) hr) ?_
              rw [e0]
              have q : ¬ OChar p1 p2 := by clear hw; simp only [OChar, OIn, Int32.lt_iff_toInt_lt, ← Int32.toInt_inj, Int32.reduceToInt] at *; omega
              exact ⟨by rw [oChar, if_neg q], N0, rfl⟩
            · -- pc 72: not p1 < (65536 : Int32)
              refine own_st (F' := s₁.setTop (mkF m 75 #[.val (.int p1), .val (.int p2), .val (.int (1 : Int32))] [])) (fun t_ kk => XS.icmpNo X0.here hx rfl (hb hby d1_72) rfl (flt hc49).1 kk) ?_
              refine own_st (F' := s₁.setTop (mkF m 76 #[.val (.int p1), .val (.int p2), .val (.int (1 : Int32))] [(.int p1)])) (fun t_ kk => XS.iloadN X0.here hx rfl (hb hby d1_75) rfl kk) ?_
              refine own_st (F' := s₁.setTop (mkF m 78 #[.val (.int p1), .val (.int p2), .val (.int (1 : Int32))] [(.int (1114111 : Int32)), (.int p1)])) (X0.ldcInt hx hown (mvT hZ (hw _ (List.mem_of_getElem? (i := 23) rfl))) (g := (mkF m 76 #[.val (.int p1), .val (.int p2), .val (.int (1 : Int32))] [(.int p1)])) rfl (hb hby d1_76)) ?_
              by_cases hc50 : (1114111 : Int32) < p1
              · -- pc 78: (1114111 : Int32) < p1
                refine own_st (F' := s₁.setTop (mkF m 85 #[.val (.int p1), .val (.int p2), .val (.int (1 : Int32))] [])) (fun t_ kk => XS.icmpYes X0.here hx rfl (pc0 := 78) (pc' := 85) rfl (hb hby d1_78) rfl (tlt hc50).2.2.1 (by decide) (by decide) kk) ?_
                refine own_st (F' := s₁.setTop (mkF m 86 #[.val (.int p1), .val (.int p2), .val (.int (1 : Int32))] [(.int (0 : Int32))])) (fun t_ kk => XS.iconst X0.here hx rfl (hb hby d1_85) kk) ?_
                refine own_fin X0 (some (.int (0 : Int32))) (fun h => by rw [Bd.returns] at h; cases h) Bd.notSynchronized (by decide) (by decide) (fun fs hr => retN X0 hx (t := .boolean) Bd.returns (by simp) (hb hby d1_86) hr) ?_
                rw [e0]
                have q : ¬ OChar p1 p2 := by clear hw; simp only [OChar, OIn, Int32.lt_iff_toInt_lt, ← Int32.toInt_inj, Int32.reduceToInt] at *; omega
                exact ⟨by rw [oChar, if_neg q], N0, rfl⟩
              · -- pc 78: not (1114111 : Int32) < p1
                refine own_st (F' := s₁.setTop (mkF m 81 #[.val (.int p1), .val (.int p2), .val (.int (1 : Int32))] [])) (fun t_ kk => XS.icmpNo X0.here hx rfl (hb hby d1_78) rfl (flt hc50).2.2.1 kk) ?_
                refine own_st (F' := s₁.setTop (mkF m 82 #[.val (.int p1), .val (.int p2), .val (.int (1 : Int32))] [(.int (1 : Int32))])) (fun t_ kk => XS.iconst X0.here hx rfl (hb hby d1_81) kk) ?_
                refine own_st (F' := s₁.setTop (mkF m 86 #[.val (.int p1), .val (.int p2), .val (.int (1 : Int32))] [(.int (1 : Int32))])) (fun t_ kk => XS.goto X0.here hx rfl (pc0 := 82) (pc' := 86) rfl (hb hby d1_82) (by decide) (by decide) kk) ?_
                refine own_fin X0 (some (.int (1 : Int32))) (fun h => by rw [Bd.returns] at h; cases h) Bd.notSynchronized (by decide) (by decide) (fun fs hr => retN X0 hx (t := .boolean) Bd.returns (by simp) (hb hby d1_86) hr) ?_
                rw [e0]
                have q : OChar p1 p2 := by clear hw; simp only [OChar, OIn, Int32.lt_iff_toInt_lt, ← Int32.toInt_inj, Int32.reduceToInt] at *; omega
                exact ⟨by rw [oChar, if_pos q], N0, rfl⟩
          · -- pc 60: not p1 < (57344 : Int32)
            refine own_st (F' := s₁.setTop (mkF m 63 #[.val (.int p1), .val (.int p2), .val (.int (1 : Int32))] [])) (fun t_ kk => XS.icmpNo X0.here hx rfl (hb hby d1_60) rfl (flt hc48).1 kk) ?_
            refine own_st (F' := s₁.setTop (mkF m 64 #[.val (.int p1), .val (.int p2), .val (.int (1 : Int32))] [(.int p1)])) (fun t_ kk => XS.iloadN X0.here hx rfl (hb hby d1_63) rfl kk) ?_
            refine own_st (F' := s₁.setTop (mkF m 66 #[.val (.int p1), .val (.int p2), .val (.int (1 : Int32))] [(.int (65533 : Int32)), (.int p1)])) (X0.ldcInt hx hown (mvT hZ (hw _ (List.mem_of_getElem? (i := 21) rfl))) (g := (mkF m 64 #[.val (.int p1), .val (.int p2), .val (.int (1 : Int32))] [(.int p1)])) rfl (hb hby d1_64)) ?_
            by_cases hc51 : (65533 : Int32) < p1
            · -- pc 66: (65533 : Int32) < p1
              refine own_st (F' := s₁.setTop (mkF m 69 #[.val (.int p1), .val (.int p2), .val (.int (1 : Int32))] [])) (fun t_ kk => XS.icmpNo X0.here hx rfl (hb hby d1_66) rfl (tlt hc51).2.2.2 kk) ?_
              refine own_st (F' := s₁.setTop (mkF m 70 #[.val (.int p1), .val (.int p2), .val (.int (1 : Int32))] [(.int p1)])) (fun t_ kk => XS.iloadN X0.here hx rfl (hb hby d1_69) rfl kk) ?_
              refine own_st (F' := s₁.setTop (mkF m 72 #[.val (.int p1), .val (.int p2), .val (.int (1 : Int32))] [(.int (65536 : Int32)), (.int p1)])) (X0.ldcInt hx hown (mvT hZ (hw _ (List.mem_of_getElem? (i := 22) rfl))) (g := (mkF m 70 #[.val (.int p1), .val (.int p2), .val (.int (1 : Int32))] [(.int p1)])) rfl (hb hby d1_70)) ?_
              by_cases hc52 : p1 < (65536 : Int32)
              · -- pc 72: p1 < (65536 : Int32)
                refine own_st (F' := s₁.setTop (mkF m 85 #[.val (.int p1), .val (.int p2), .val (.int (1 : Int32))] [])) (fun t_ kk => XS.icmpYes X0.here hx rfl (pc0 := 72) (pc' := 85) rfl (hb hby d1_72) rfl (tlt hc52).1 (by decide) (by decide) kk) ?_
                refine own_st (F' := s₁.setTop (mkF m 86 #[.val (.int p1), .val (.int p2), .val (.int (1 : Int32))] [(.int (0 : Int32))])) (fun t_ kk => XS.iconst X0.here hx rfl (hb hby d1_85) kk) ?_
                refine own_fin X0 (some (.int (0 : Int32))) (fun h => by rw [Bd.returns] at h; cases h) Bd.notSynchronized (by decide) (by decide) (fun fs hr => retN X0 hx (t := .boolean) Bd.returns (by simp) (hb hby d1_86) hr) ?_
                rw [e0]
                have q : ¬ OChar p1 p2 := by clear hw; simp only [OChar, OIn, Int32.lt_iff_toInt_lt, ← Int32.toInt_inj, Int32.reduceToInt] at *; omega
                exact ⟨by rw [oChar, if_neg q], N0, rfl⟩
              · -- pc 72: not p1 < (65536 : Int32)
                refine own_st (F' := s₁.setTop (mkF m 75 #[.val (.int p1), .val (.int p2), .val (.int (1 : Int32))] [])) (fun t_ kk => XS.icmpNo X0.here hx rfl (hb hby d1_72) rfl (flt hc52).1 kk) ?_
                refine own_st (F' := s₁.setTop (mkF m 76 #[.val (.int p1), .val (.int p2), .val (.int (1 : Int32))] [(.int p1)])) (fun t_ kk => XS.iloadN X0.here hx rfl (hb hby d1_75) rfl kk) ?_
                refine own_st (F' := s₁.setTop (mkF m 78 #[.val (.int p1), .val (.int p2), .val (.int (1 : Int32))] [(.int (1114111 : Int32)), (.int p1)])) (X0.ldcInt hx hown (mvT hZ (hw _ (List.mem_of_getElem? (i := 23) rfl))) (g := (mkF m 76 #[.val (.int p1), .val (.int p2), .val (.int (1 : Int32))] [(.int p1)])) rfl (hb hby d1_76)) ?_
                by_cases hc53 : (1114111 : Int32) < p1
                · -- pc 78: (1114111 : Int32) < p1
                  refine own_st (F' := s₁.setTop (mkF m 85 #[.val (.int p1), .val (.int p2), .val (.int (1 : Int32))] [])) (fun t_ kk => XS.icmpYes X0.here hx rfl (pc0 := 78) (pc' := 85) rfl (hb hby d1_78) rfl (tlt hc53).2.2.1 (by decide) (by decide) kk) ?_
                  refine own_st (F' := s₁.setTop (mkF m 86 #[.val (.int p1), .val (.int p2), .val (.int (1 : Int32))] [(.int (0 : Int32))])) (fun t_ kk => XS.iconst X0.here hx rfl (hb hby d1_85) kk) ?_
                  refine own_fin X0 (some (.int (0 : Int32))) (fun h => by rw [Bd.returns] at h; cases h) Bd.notSynchronized (by decide) (by decide) (fun fs hr => retN X0 hx (t := .boolean) Bd.returns (by simp) (hb hby d1_86) hr) ?_
                  rw [e0]
                  have q : ¬ OChar p1 p2 := by clear hw; simp only [OChar, OIn, Int32.lt_iff_toInt_lt, ← Int32.toInt_inj, Int32.reduceToInt] at *; omega
                  exact ⟨by rw [oChar, if_neg q], N0, rfl⟩
                · -- pc 78: not (1114111 : Int32) < p1
                  refine own_st (F' := s₁.setTop (mkF m 81 #[.val (.int p1), .val (.int p2), .val (.int (1 : Int32))] [])) (fun t_ kk => XS.icmpNo X0.here hx rfl (hb hby d1_78) rfl (flt hc53).2.2.1 kk) ?_
                  refine own_st (F' := s₁.setTop (mkF m 82 #[.val (.int p1), .val (.int p2), .val (.int (1 : Int32))] [(.int (1 : Int32))])) (fun t_ kk => XS.iconst X0.here hx rfl (hb hby d1_81) kk) ?_
                  refine own_st (F' := s₁.setTop (mkF m 86 #[.val (.int p1), .val (.int p2), .val (.int (1 : Int32))] [(.int (1 : Int32))])) (fun t_ kk => XS.goto X0.here hx rfl (pc0 := 82) (pc' := 86) rfl (hb hby d1_82) (by decide) (by decide) kk) ?_
                  refine own_fin X0 (some (.int (1 : Int32))) (fun h => by rw [Bd.returns] at h; cases h) Bd.notSynchronized (by decide) (by decide) (fun fs hr => retN X0 hx (t := .boolean) Bd.returns (by simp) (hb hby d1_86) hr) ?_
                  rw [e0]
                  have q : OChar p1 p2 := by clear hw; simp only [OChar, OIn, Int32.lt_iff_toInt_lt, ← Int32.toInt_inj, Int32.reduceToInt] at *; omega
                  exact ⟨by rw [oChar, if_pos q], N0, rfl⟩
            · -- pc 66: not (65533 : Int32) < p1
              refine own_st (F' := s₁.setTop (mkF m 81 #[.val (.int p1), .val (.int p2), .val (.int (1 : Int32))] [])) (fun t_ kk => XS.icmpYes X0.here hx rfl (pc0 := 66) (pc' := 81) rfl (hb hby d1_66) rfl (flt hc51).2.2.2 (by decide) (by decide) kk) ?_
              refine own_st (F' := s₁.setTop (mkF m 82 #[.val (.int p1), .val (.int p2), .val (.int (1 : Int32))] [(.int (1 : Int32))])) (fun t_ kk => XS.iconst X0.here hx rfl (hb hby d1_81) kk) ?_
              refine own_st (F' := s₁.setTop (mkF m 86 #[.val (.int p1), .val (.int p2), .val (.int (1 : Int32))] [(.int (1 : Int32))])) (fun t_ kk => XS.goto X0.here hx rfl (pc0 := 82) (pc' := 86) rfl (hb hby d1_82) (by decide) (by decide) kk) ?_
              refine own_fin X0 (some (.int (1 : Int32))) (fun h => by rw [Bd.returns] at h; cases h) Bd.notSynchronized (by decide) (by decide) (fun fs hr => retN X0 hx (t := .boolean) Bd.returns (by simp) (hb hby d1_86) hr) ?_
              rw [e0]
              have q : OChar p1 p2 := by clear hw; simp only [OChar, OIn, Int32.lt_iff_toInt_lt, ← Int32.toInt_inj, Int32.reduceToInt] at *; omega
              exact ⟨by rw [oChar, if_pos q], N0, rfl⟩
        · -- pc 54: not (55295 : Int32) < p1
          refine own_st (F' := s₁.setTop (mkF m 81 #[.val (.int p1), .val (.int p2), .val (.int (1 : Int32))] [])) (fun t_ kk => XS.icmpYes X0.here hx rfl (pc0 := 54) (pc' := 81) rfl (hb hby d1_54) rfl (flt hc47).2.2.2 (by decide) (by decide) kk) ?_
          refine own_st (F' := s₁.setTop (mkF m 82 #[.val (.int p1), .val (.int p2), .val (.int (1 : Int32))] [(.int (1 : Int32))])) (fun t_ kk => XS.iconst X0.here hx rfl (hb hby d1_81) kk) ?_
          refine own_st (F' := s₁.setTop (mkF m 86 #[.val (.int p1), .val (.int p2), .val (.int (1 : Int32))] [(.int (1 : Int32))])) (fun t_ kk => XS.goto X0.here hx rfl (pc0 := 82) (pc' := 86) rfl (hb hby d1_82) (by decide) (by decide) kk) ?_
          refine own_fin X0 (some (.int (1 : Int32))) (fun h => by rw [Bd.returns] at h; cases h) Bd.notSynchronized (by decide) (by decide) (fun fs hr => retN X0 hx (t := .boolean) Bd.returns (by simp) (hb hby d1_86) hr) ?_
          rw [e0]
          have q : OChar p1 p2 := by clear hw; simp only [OChar, OIn, Int32.lt_iff_toInt_lt, ← Int32.toInt_inj, Int32.reduceToInt] at *; omega
          exact ⟨by rw [oChar, if_pos q], N0, rfl⟩
theorem d2_0 : decode method_3_code 0 = .ok (.iload_n 0, 1) := by decide +kernel
theorem d2_1 : decode method_3_code 1 = .ok (.bipush 32, 2) := by decide +kernel
theorem d2_3 : decode method_3_code 3 = .ok (.ldc 7, 2) := by decide +kernel
theorem d2_5 : decode method_3_code 5 = .ok (.invokestatic 8, 3) := by decide +kernel
theorem d2_8 : decode method_3_code 8 = .ok (.ifCond .ne 25, 3) := by decide +kernel
theorem d2_11 : decode method_3_code 11 = .ok (.iload_n 0, 1) := by decide +kernel
theorem d2_12 : decode method_3_code 12 = .ok (.ldc 14, 2) := by decide +kernel
theorem d2_14 : decode method_3_code 14 = .ok (.ldc 15, 2) := by decide +kernel
theorem d2_16 : decode method_3_code 16 = .ok (.invokestatic 8, 3) := by decide +kernel
theorem d2_19 : decode method_3_code 19 = .ok (.ifCond .ne 14, 3) := by decide +kernel
theorem d2_22 : decode method_3_code 22 = .ok (.iload_n 0, 1) := by decide +kernel
theorem d2_23 : decode method_3_code 23 = .ok (.ldc 16, 2) := by decide +kernel
theorem d2_25 : decode method_3_code 25 = .ok (.ldc 17, 2) := by decide +kernel
theorem d2_27 : decode method_3_code 27 = .ok (.invokestatic 8, 3) := by decide +kernel
theorem d2_30 : decode method_3_code 30 = .ok (.ifCond .eq 7, 3) := by decide +kernel
theorem d2_33 : decode method_3_code 33 = .ok (.iconst 1, 1) := by decide +kernel
theorem d2_34 : decode method_3_code 34 = .ok (.goto 4, 3) := by decide +kernel
theorem d2_37 : decode method_3_code 37 = .ok (.iconst 0, 1) := by decide +kernel
theorem d2_38 : decode method_3_code 38 = .ok (.istore_n 2, 1) := by decide +kernel
theorem d2_39 : decode method_3_code 39 = .ok (.iload_n 1, 1) := by decide +kernel
theorem d2_40 : decode method_3_code 40 = .ok (.ifCond .eq 14, 3) := by decide +kernel
theorem d2_43 : decode method_3_code 43 = .ok (.iload_n 0, 1) := by decide +kernel
theorem d2_44 : decode method_3_code 44 = .ok (.iconst 1, 1) := by decide +kernel
theorem d2_45 : decode method_3_code 45 = .ok (.bipush 31, 2) := by decide +kernel
theorem d2_47 : decode method_3_code 47 = .ok (.invokestatic 8, 3) := by decide +kernel
theorem d2_50 : decode method_3_code 50 = .ok (.istore_n 3, 1) := by decide +kernel
theorem d2_51 : decode method_3_code 51 = .ok (.goto 27, 3) := by decide +kernel
theorem d2_54 : decode method_3_code 54 = .ok (.iload_n 0, 1) := by decide +kernel
theorem d2_55 : decode method_3_code 55 = .ok (.bipush 9, 2) := by decide +kernel
theorem d2_57 : decode method_3_code 57 = .ok (.if_icmp .eq 15, 3) := by decide +kernel
theorem d2_60 : decode method_3_code 60 = .ok (.iload_n 0, 1) := by decide +kernel
theorem d2_61 : decode method_3_code 61 = .ok (.bipush 10, 2) := by decide +kernel
theorem d2_63 : decode method_3_code 63 = .ok (.if_icmp .eq 9, 3) := by decide +kernel
theorem d2_66 : decode method_3_code 66 = .ok (.iload_n 0, 1) := by decide +kernel
theorem d2_67 : decode method_3_code 67 = .ok (.bipush 13, 2) := by decide +kernel
theorem d2_69 : decode method_3_code 69 = .ok (.if_icmp .ne 7, 3) := by decide +kernel
theorem d2_72 : decode method_3_code 72 = .ok (.iconst 1, 1) := by decide +kernel
theorem d2_73 : decode method_3_code 73 = .ok (.goto 4, 3) := by decide +kernel
theorem d2_76 : decode method_3_code 76 = .ok (.iconst 0, 1) := by decide +kernel
theorem d2_77 : decode method_3_code 77 = .ok (.istore_n 3, 1) := by decide +kernel
theorem d2_78 : decode method_3_code 78 = .ok (.iload_n 2, 1) := by decide +kernel
theorem d2_79 : decode method_3_code 79 = .ok (.ifCond .ne 7, 3) := by decide +kernel
theorem d2_82 : decode method_3_code 82 = .ok (.iload_n 3, 1) := by decide +kernel
theorem d2_83 : decode method_3_code 83 = .ok (.ifCond .eq 7, 3) := by decide +kernel
theorem d2_86 : decode method_3_code 86 = .ok (.iconst 1, 1) := by decide +kernel
theorem d2_87 : decode method_3_code 87 = .ok (.goto 4, 3) := by decide +kernel
theorem d2_90 : decode method_3_code 90 = .ok (.iconst 0, 1) := by decide +kernel
theorem d2_91 : decode method_3_code 91 = .ok (.ireturn, 1) := by decide +kernel
def Q2 (p1 p2 : Int32) (h0 : Heap) (n0 : Nat) (v : Option Value) (h : Heap) (L : List Loc) : Prop := v = some (.int (oChar p1 p2)) ∧ Fr n0 L ∧ h = h0
theorem ef_2 (m : MethodId) (x0 : Int32) (x1 : Int32) : entryFrame m #[(.int x0), (.int x1)] 4 = mkF m 0 #[.val (.int x0), .val (.int x1), .unset, .unset] [] := by first | (simp [entryFrame, mkF, argsToLocals, Value.category]; done) | rfl
theorem pn_2 : plainName "com/example/ascribe/ascribe/XmlNamesIsCharPinLaw" = true := by first | (simp [plainName, overriddenIn]; done) | decide +kernel
set_option maxRecDepth 65536 in
set_option maxHeartbeats 40000000 in
theorem rm2 (l : Launch) (Z : State) (a0 : Array Value) (hw : ∀ d ∈ tables_1, d.before a0 Z = true) (ws : List Jvm.Cond) (p1 p2 : Int32) (h0 : Heap) (n0 : Nat) (Z0 : n0 ≤ h0.size)  :
    MetFree l (⟨"com/example/ascribe/ascribe/XmlNamesIsCharPinLaw", "expected", "(IZ)Z"⟩ : MethodName) (head1 (Jvm.Cond.code (⟨"com/example/ascribe/ascribe/XmlNamesIsCharPinLaw", "expected", "(IZ)Z"⟩ : MethodName) method_3_code 4 (some .boolean) :: ws) ({ frames := 1, cells := 0, slots := 0, locals := 14 } : Room)) (fun a U => a = #[(.int p1), (.int p2)] ∧ Z.Warmed39 U.vm ∧ U.heap = h0) (fun _ _ _ _ _ => True) (fun _ U o U' => ∃ v L, o = .returned v ∧ Q2 p1 p2 h0 n0 v U'.heap L ∧ FrameEnd U o U' L ({ frames := 1, cells := 0, slots := 0, locals := 14 } : Room).cells ({ frames := 1, cells := 0, slots := 0, locals := 14 } : Room).slots) := by
  refine MetFree.of_bodySF (plainFor_of_name pn_2) hisR ?_
  intro p e s m args below meth c s₁ Bd hml0 hP hK
  obtain ⟨rfl, hZ, hh⟩ := hP
  have hx := Bd.exec
  have hby := Bd.bytes
  have hml : c.maxLocals = 4 := hml0
  have hown : s.vm.findClass "com/example/ascribe/ascribe/XmlNamesIsCharPinLaw" = some m.cls := findClass_of_methodNamed Bd.named
  have hnm := (name_of_methodNamed Bd.named Bd.method).1
  have X0 : Stand p l e ({ frames := 1, cells := 0, slots := 0, locals := 14 } : Room) s m #[(.int p1), (.int p2)] below meth c s₁ [] 0 0 := Stand.of_body Bd
  have e0 : s₁.heap = h0 := by rw [← hh, Bd.state]; rfl
  have N0 := Fr.nil n0
  suffices hgoal : OWp p e below s ({ frames := 1, cells := 0, slots := 0, locals := 14 } : Room).cells ({ frames := 1, cells := 0, slots := 0, locals := 14 } : Room).slots (Q2 p1 p2 h0 n0) (s₁.setTop (mkF m 0 #[.val (.int p1), .val (.int p2), .unset, .unset] [])) by
    rw [← ef_2] at hgoal; exact hgoal
  refine own_st (F' := s₁.setTop (mkF m 1 #[.val (.int p1), .val (.int p2), .unset, .unset] [(.int p1)])) (fun t_ kk => XS.iloadN X0.here hx rfl (hb hby d2_0) rfl kk) ?_
  refine own_st (F' := s₁.setTop (mkF m 3 #[.val (.int p1), .val (.int p2), .unset, .unset] [(.int (32 : Int32)), (.int p1)])) (fun t_ kk => XS.bipush X0.here hx rfl (hb hby d2_1) kk) ?_
  refine own_st (F' := s₁.setTop (mkF m 5 #[.val (.int p1), .val (.int p2), .unset, .unset] [(.int (55295 : Int32)), (.int (32 : Int32)), (.int p1)])) (X0.ldcInt hx hown (mvT hZ (hw _ (List.mem_of_getElem? (i := 1) rfl))) (g := (mkF m 3 #[.val (.int p1), .val (.int p2), .unset, .unset] [(.int (32 : Int32)), (.int p1)])) rfl (hb hby d2_3)) ?_
  refine own_callS X0 hx hZ (y := (⟨"com/example/ascribe/ascribe/XmlNamesIsCharPinLaw", "in", "(III)Z"⟩ : MethodName)) hown (hw _ (List.mem_of_getElem? (i := 16) rfl)) (hw _ (List.mem_of_getElem? (i := 17) rfl)) (hw _ (List.mem_of_getElem? (i := 14) rfl)) (hw _ (List.mem_of_getElem? (i := 18) rfl)) (rm3 l Z a0 hw [] p1 (32 : Int32) (55295 : Int32) h0 n0 Z0) (by decide) (W := 0) (argsL := [(.int p1), (.int (32 : Int32)), (.int (55295 : Int32))]) (rest := []) (by decide) (by decide) (by rw [hml]; rfl) (lenOf own_pd0 rfl) rfl rfl (Nat.le_of_eq rfl) (hb hby d2_5) e0 (by decide) (by decide) ?_
  intro v1 T1 L1 hQ1 X1
  obtain ⟨rfl, N1q, e1⟩ := hQ1
  have N1 := Fr.app N0 N1q
  show OWp p e below s _ _ _ (T1.setTop (mkF m 8 #[.val (.int p1), .val (.int p2), .unset, .unset] [(.int (oIn p1 (32 : Int32) (55295 : Int32)))]))
  by_cases hc2 : (oIn p1 (32 : Int32) (55295 : Int32)) = (0 : Int32)
  · -- pc 8: (oIn p1 (32 : Int32) (55295 : Int32)) = (0 : Int32)
    refine own_st (F' := T1.setTop (mkF m 11 #[.val (.int p1), .val (.int p2), .unset, .unset] [])) (fun t_ kk => XS.ifNo X1.here hx rfl (hb hby d2_8) rfl ((if0 _ _).trans (teq hc2).2) kk) ?_
    refine own_st (F' := T1.setTop (mkF m 12 #[.val (.int p1), .val (.int p2), .unset, .unset] [(.int p1)])) (fun t_ kk => XS.iloadN X1.here hx rfl (hb hby d2_11) rfl kk) ?_
    refine own_st (F' := T1.setTop (mkF m 14 #[.val (.int p1), .val (.int p2), .unset, .unset] [(.int (57344 : Int32)), (.int p1)])) (X1.ldcInt hx hown (mvT hZ (hw _ (List.mem_of_getElem? (i := 2) rfl))) (g := (mkF m 12 #[.val (.int p1), .val (.int p2), .unset, .unset] [(.int p1)])) rfl (hb hby d2_12)) ?_
    refine own_st (F' := T1.setTop (mkF m 16 #[.val (.int p1), .val (.int p2), .unset, .unset] [(.int (65533 : Int32)), (.int (57344 : Int32)), (.int p1)])) (X1.ldcInt hx hown (mvT hZ (hw _ (List.mem_of_getElem? (i := 3) rfl))) (g := (mkF m 14 #[.val (.int p1), .val (.int p2), .unset, .unset] [(.int (57344 : Int32)), (.int p1)])) rfl (hb hby d2_14)) ?_
    refine own_callS X1 hx hZ (y := (⟨"com/example/ascribe/ascribe/XmlNamesIsCharPinLaw", "in", "(III)Z"⟩ : MethodName)) hown (hw _ (List.mem_of_getElem? (i := 16) rfl)) (hw _ (List.mem_of_getElem? (i := 17) rfl)) (hw _ (List.mem_of_getElem? (i := 14) rfl)) (hw _ (List.mem_of_getElem? (i := 18) rfl)) (rm3 l Z a0 hw [] p1 (57344 : Int32) (65533 : Int32) h0 n0 Z0) (by decide) (W := 0) (argsL := [(.int p1), (.int (57344 : Int32)), (.int (65533 : Int32))]) (rest := []) (by decide) (by decide) (by rw [hml]; rfl) (lenOf own_pd0 rfl) rfl rfl (Nat.le_of_eq rfl) (hb hby d2_16) e1 (by decide) (by decide) ?_
    intro v3 T3 L3 hQ3 X3
    obtain ⟨rfl, N3q, e3⟩ := hQ3
    have N3 := Fr.app N1 N3q
    show OWp p e below s _ _ _ (T3.setTop (mkF m 19 #[.val (.int p1), .val (.int p2), .unset, .unset] [(.int (oIn p1 (57344 : Int32) (65533 : Int32)))]))
    by_cases hc4 : (oIn p1 (57344 : Int32) (65533 : Int32)) = (0 : Int32)
    · -- pc 19: (oIn p1 (57344 : Int32) (65533 : Int32)) = (0 : Int32)
      refine own_st (F' := T3.setTop (mkF m 22 #[.val (.int p1), .val (.int p2), .unset, .unset] [])) (fun t_ kk => XS.ifNo X3.here hx rfl (hb hby d2_19) rfl ((if0 _ _).trans (teq hc4).2) kk) ?_
      refine own_st (F' := T3.setTop (mkF m 23 #[.val (.int p1), .val (.int p2), .unset, .unset] [(.int p1)])) (fun t_ kk => XS.iloadN X3.here hx rfl (hb hby d2_22) rfl kk) ?_
      refine own_st (F' := T3.setTop (mkF m 25 #[.val (.int p1), .val (.int p2), .unset, .unset] [(.int (65536 : Int32)), (.int p1)])) (X3.ldcInt hx hown (mvT hZ (hw _ (List.mem_of_getElem? (i := 4) rfl))) (g := (mkF m 23 #[.val (.int p1), .val (.int p2), .unset, .unset] [(.int p1)])) rfl (hb hby d2_23)) ?_
      refine own_st (F' := T3.setTop (mkF m 27 #[.val (.int p1), .val (.int p2), .unset, .unset] [(.int (1114111 : Int32)), (.int (65536 : Int32)), (.int p1)])) (X3.ldcInt hx hown (mvT hZ (hw _ (List.mem_of_getElem? (i := 5) rfl))) (g := (mkF m 25 #[.val (.int p1), .val (.int p2), .unset, .unset] [(.int (65536 : Int32)), (.int p1)])) rfl (hb hby d2_25)) ?_
      refine own_callS X3 hx hZ (y := (⟨"com/example/ascribe/ascribe/XmlNamesIsCharPinLaw", "in", "(III)Z"⟩ : MethodName)) hown (hw _ (List.mem_of_getElem? (i := 16) rfl)) (hw _ (List.mem_of_getElem? (i := 17) rfl)) (hw _ (List.mem_of_getElem? (i := 14) rfl)) (hw _ (List.mem_of_getElem? (i := 18) rfl)) (rm3 l Z a0 hw [] p1 (65536 : Int32) (1114111 : Int32) h0 n0 Z0) (by decide) (W := 0) (argsL := [(.int p1), (.int (65536 : Int32)), (.int (1114111 : Int32))]) (rest := []) (by decide) (by decide) (by rw [hml]; rfl) (lenOf own_pd0 rfl) rfl rfl (Nat.le_of_eq rfl) (hb hby d2_27) e3 (by decide) (by decide) ?_
      intro v5 T5 L5 hQ5 X5
      obtain ⟨rfl, N5q, e5⟩ := hQ5
      have N5 := Fr.app N3 N5q
      show OWp p e below s _ _ _ (T5.setTop (mkF m 30 #[.val (.int p1), .val (.int p2), .unset, .unset] [(.int (oIn p1 (65536 : Int32) (1114111 : Int32)))]))
      by_cases hc6 : (oIn p1 (65536 : Int32) (1114111 : Int32)) = (0 : Int32)
      · -- pc 30: (oIn p1 (65536 : Int32) (1114111 : Int32)) = (0 : Int32)
        refine own_st (F' := T5.setTop (mkF m 37 #[.val (.int p1), .val (.int p2), .unset, .unset] [])) (fun t_ kk => XS.ifYes X5.here hx rfl (pc0 := 30) (pc' := 37) rfl (hb hby d2_30) rfl ((if0 _ _).trans (teq hc6).1) (by decide) (by decide) kk) ?_
        refine own_st (F' := T5.setTop (mkF m 38 #[.val (.int p1), .val (.int p2), .unset, .unset] [(.int (0 : Int32))])) (fun t_ kk => XS.iconst X5.here hx rfl (hb hby d2_37) kk) ?_
        refine own_st (F' := T5.setTop (mkF m 39 #[.val (.int p1), .val (.int p2), .val (.int (0 : Int32)), .unset] [])) (fun t_ kk => XS.istoreN X5.here hx rfl (hb hby d2_38) rfl (l' := #[.val (.int p1), .val (.int p2), .val (.int (0 : Int32)), .unset]) rfl kk) ?_
        refine own_st (F' := T5.setTop (mkF m 40 #[.val (.int p1), .val (.int p2), .val (.int (0 : Int32)), .unset] [(.int p2)])) (fun t_ kk => XS.iloadN X5.here hx rfl (hb hby d2_39) rfl kk) ?_
        by_cases hc7 : p2 = (0 : Int32)
        · -- pc 40: p2 = (0 : Int32)
          refine own_st (F' := T5.setTop (mkF m 54 #[.val (.int p1), .val (.int p2), .val (.int (0 : Int32)), .unset] [])) (fun t_ kk => XS.ifYes X5.here hx rfl (pc0 := 40) (pc' := 54) rfl (hb hby d2_40) rfl ((if0 _ _).trans (teq hc7).1) (by decide) (by decide) kk) ?_
          refine own_st (F' := T5.setTop (mkF m 55 #[.val (.int p1), .val (.int p2), .val (.int (0 : Int32)), .unset] [(.int p1)])) (fun t_ kk => XS.iloadN X5.here hx rfl (hb hby d2_54) rfl kk) ?_
          refine own_st (F' := T5.setTop (mkF m 57 #[.val (.int p1), .val (.int p2), .val (.int (0 : Int32)), .unset] [(.int (9 : Int32)), (.int p1)])) (fun t_ kk => XS.bipush X5.here hx rfl (hb hby d2_55) kk) ?_
          by_cases hc8 : p1 = (9 : Int32)
          · -- pc 57: p1 = (9 : Int32)
            refine own_st (F' := T5.setTop (mkF m 72 #[.val (.int p1), .val (.int p2), .val (.int (0 : Int32)), .unset] [])) (fun t_ kk => XS.icmpYes X5.here hx rfl (pc0 := 57) (pc' := 72) rfl (hb hby d2_57) rfl (teq hc8).1 (by decide) (by decide) kk) ?_
            refine own_st (F' := T5.setTop (mkF m 73 #[.val (.int p1), .val (.int p2), .val (.int (0 : Int32)), .unset] [(.int (1 : Int32))])) (fun t_ kk => XS.iconst X5.here hx rfl (hb hby d2_72) kk) ?_
            refine own_st (F' := T5.setTop (mkF m 77 #[.val (.int p1), .val (.int p2), .val (.int (0 : Int32)), .unset] [(.int (1 : Int32))])) (fun t_ kk => XS.goto X5.here hx rfl (pc0 := 73) (pc' := 77) rfl (hb hby d2_73) (by decide) (by decide) kk) ?_
            refine own_st (F' := T5.setTop (mkF m 78 #[.val (.int p1), .val (.int p2), .val (.int (0 : Int32)), .val (.int (1 : Int32))] [])) (fun t_ kk => XS.istoreN X5.here hx rfl (hb hby d2_77) rfl (l' := #[.val (.int p1), .val (.int p2), .val (.int (0 : Int32)), .val (.int (1 : Int32))]) rfl kk) ?_
            refine own_st (F' := T5.setTop (mkF m 79 #[.val (.int p1), .val (.int p2), .val (.int (0 : Int32)), .val (.int (1 : Int32))] [(.int (0 : Int32))])) (fun t_ kk => XS.iloadN X5.here hx rfl (hb hby d2_78) rfl kk) ?_
            refine own_st (F' := T5.setTop (mkF m 82 #[.val (.int p1), .val (.int p2), .val (.int (0 : Int32)), .val (.int (1 : Int32))] [])) (fun t_ kk => XS.ifNo X5.here hx rfl (hb hby d2_79) rfl ((if0 _ _).trans (teq (by decide : (0 : Int32) = (0 : Int32))).2) kk) ?_
            refine own_st (F' := T5.setTop (mkF m 83 #[.val (.int p1), .val (.int p2), .val (.int (0 : Int32)), .val (.int (1 : Int32))] [(.int (1 : Int32))])) (fun t_ kk => XS.iloadN X5.here hx rfl (hb hby d2_82) rfl kk) ?_
            refine own_st (F' := T5.setTop (mkF m 86 #[.val (.int p1), .val (.int p2), .val (.int (0 : Int32)), .val (.int (1 : Int32))] [])) (fun t_ kk => XS.ifNo X5.here hx rfl (hb hby d2_83) rfl ((if0 _ _).trans (feq (by decide : ¬ ((1 : Int32) = (0 : Int32)))).1) kk) ?_
            refine own_st (F' := T5.setTop (mkF m 87 #[.val (.int p1), .val (.int p2), .val (.int (0 : Int32)), .val (.int (1 : Int32))] [(.int (1 : Int32))])) (fun t_ kk => XS.iconst X5.here hx rfl (hb hby d2_86) kk) ?_
            refine own_st (F' := T5.setTop (mkF m 91 #[.val (.int p1), .val (.int p2), .val (.int (0 : Int32)), .val (.int (1 : Int32))] [(.int (1 : Int32))])) (fun t_ kk => XS.goto X5.here hx rfl (pc0 := 87) (pc' := 91) rfl (hb hby d2_87) (by decide) (by decide) kk) ?_
            refine own_fin X5 (some (.int (1 : Int32))) (fun h => by rw [Bd.returns] at h; cases h) Bd.notSynchronized (by decide) (by decide) (fun fs hr => retN X5 hx (t := .boolean) Bd.returns (by simp) (hb hby d2_91) hr) ?_
            rw [e5]
            have q : OChar p1 p2 := by clear hw; simp only [oIn_1] at *; simp only [OChar, OIn, Int32.lt_iff_toInt_lt, ← Int32.toInt_inj, Int32.reduceToInt] at *; omega
            exact ⟨by rw [oChar, if_pos q], N5, rfl⟩
          · -- pc 57: not p1 = (9 : Int32)
            refine own_st (F' := T5.setTop (mkF m 60 #[.val (.int p1), .val (.int p2), .val (.int (0 : Int32)), .unset] [])) (fun t_ kk => XS.icmpNo X5.here hx rfl (hb hby d2_57) rfl (feq hc8).1 kk) ?_
            refine own_st (F' := T5.setTop (mkF m 61 #[.val (.int p1), .val (.int p2), .val (.int (0 : Int32)), .unset] [(.int p1)])) (fun t_ kk => XS.iloadN X5.here hx rfl (hb hby d2_60) rfl kk) ?_
            refine own_st (F' := T5.setTop (mkF m 63 #[.val (.int p1), .val (.int p2), .val (.int (0 : Int32)), .unset] [(.int (10 : Int32)), (.int p1)])) (fun t_ kk => XS.bipush X5.here hx rfl (hb hby d2_61) kk) ?_
            by_cases hc9 : p1 = (10 : Int32)
            · -- pc 63: p1 = (10 : Int32)
              refine own_st (F' := T5.setTop (mkF m 72 #[.val (.int p1), .val (.int p2), .val (.int (0 : Int32)), .unset] [])) (fun t_ kk => XS.icmpYes X5.here hx rfl (pc0 := 63) (pc' := 72) rfl (hb hby d2_63) rfl (teq hc9).1 (by decide) (by decide) kk) ?_
              refine own_st (F' := T5.setTop (mkF m 73 #[.val (.int p1), .val (.int p2), .val (.int (0 : Int32)), .unset] [(.int (1 : Int32))])) (fun t_ kk => XS.iconst X5.here hx rfl (hb hby d2_72) kk) ?_
              refine own_st (F' := T5.setTop (mkF m 77 #[.val (.int p1), .val (.int p2), .val (.int (0 : Int32)), .unset] [(.int (1 : Int32))])) (fun t_ kk => XS.goto X5.here hx rfl (pc0 := 73) (pc' := 77) rfl (hb hby d2_73) (by decide) (by decide) kk) ?_
              refine own_st (F' := T5.setTop (mkF m 78 #[.val (.int p1), .val (.int p2), .val (.int (0 : Int32)), .val (.int (1 : Int32))] [])) (fun t_ kk => XS.istoreN X5.here hx rfl (hb hby d2_77) rfl (l' := #[.val (.int p1), .val (.int p2), .val (.int (0 : Int32)), .val (.int (1 : Int32))]) rfl kk) ?_
              refine own_st (F' := T5.setTop (mkF m 79 #[.val (.int p1), .val (.int p2), .val (.int (0 : Int32)), .val (.int (1 : Int32))] [(.int (0 : Int32))])) (fun t_ kk => XS.iloadN X5.here hx rfl (hb hby d2_78) rfl kk) ?_
              refine own_st (F' := T5.setTop (mkF m 82 #[.val (.int p1), .val (.int p2), .val (.int (0 : Int32)), .val (.int (1 : Int32))] [])) (fun t_ kk => XS.ifNo X5.here hx rfl (hb hby d2_79) rfl ((if0 _ _).trans (teq (by decide : (0 : Int32) = (0 : Int32))).2) kk) ?_
              refine own_st (F' := T5.setTop (mkF m 83 #[.val (.int p1), .val (.int p2), .val (.int (0 : Int32)), .val (.int (1 : Int32))] [(.int (1 : Int32))])) (fun t_ kk => XS.iloadN X5.here hx rfl (hb hby d2_82) rfl kk) ?_
              refine own_st (F' := T5.setTop (mkF m 86 #[.val (.int p1), .val (.int p2), .val (.int (0 : Int32)), .val (.int (1 : Int32))] [])) (fun t_ kk => XS.ifNo X5.here hx rfl (hb hby d2_83) rfl ((if0 _ _).trans (feq (by decide : ¬ ((1 : Int32) = (0 : Int32)))).1) kk) ?_
              refine own_st (F' := T5.setTop (mkF m 87 #[.val (.int p1), .val (.int p2), .val (.int (0 : Int32)), .val (.int (1 : Int32))] [(.int (1 : Int32))])) (fun t_ kk => XS.iconst X5.here hx rfl (hb hby d2_86) kk) ?_
              refine own_st (F' := T5.setTop (mkF m 91 #[.val (.int p1), .val (.int p2), .val (.int (0 : Int32)), .val (.int (1 : Int32))] [(.int (1 : Int32))])) (fun t_ kk => XS.goto X5.here hx rfl (pc0 := 87) (pc' := 91) rfl (hb hby d2_87) (by decide) (by decide) kk) ?_
              refine own_fin X5 (some (.int (1 : Int32))) (fun h => by rw [Bd.returns] at h; cases h) Bd.notSynchronized (by decide) (by decide) (fun fs hr => retN X5 hx (t := .boolean) Bd.returns (by simp) (hb hby d2_91) hr) ?_
              rw [e5]
              have q : OChar p1 p2 := by clear hw; simp only [oIn_1] at *; simp only [OChar, OIn, Int32.lt_iff_toInt_lt, ← Int32.toInt_inj, Int32.reduceToInt] at *; omega
              exact ⟨by rw [oChar, if_pos q], N5, rfl⟩
            · -- pc 63: not p1 = (10 : Int32)
              refine own_st (F' := T5.setTop (mkF m 66 #[.val (.int p1), .val (.int p2), .val (.int (0 : Int32)), .unset] [])) (fun t_ kk => XS.icmpNo X5.here hx rfl (hb hby d2_63) rfl (feq hc9).1 kk) ?_
              refine own_st (F' := T5.setTop (mkF m 67 #[.val (.int p1), .val (.int p2), .val (.int (0 : Int32)), .unset] [(.int p1)])) (fun t_ kk => XS.iloadN X5.here hx rfl (hb hby d2_66) rfl kk) ?_
              refine own_st (F' := T5.setTop (mkF m 69 #[.val (.int p1), .val (.int p2), .val (.int (0 : Int32)), .unset] [(.int (13 : Int32)), (.int p1)])) (fun t_ kk => XS.bipush X5.here hx rfl (hb hby d2_67) kk) ?_
              by_cases hc10 : p1 = (13 : Int32)
              · -- pc 69: p1 = (13 : Int32)
                refine own_st (F' := T5.setTop (mkF m 72 #[.val (.int p1), .val (.int p2), .val (.int (0 : Int32)), .unset] [])) (fun t_ kk => XS.icmpNo X5.here hx rfl (hb hby d2_69) rfl (teq hc10).2 kk) ?_
                refine own_st (F' := T5.setTop (mkF m 73 #[.val (.int p1), .val (.int p2), .val (.int (0 : Int32)), .unset] [(.int (1 : Int32))])) (fun t_ kk => XS.iconst X5.here hx rfl (hb hby d2_72) kk) ?_
                refine own_st (F' := T5.setTop (mkF m 77 #[.val (.int p1), .val (.int p2), .val (.int (0 : Int32)), .unset] [(.int (1 : Int32))])) (fun t_ kk => XS.goto X5.here hx rfl (pc0 := 73) (pc' := 77) rfl (hb hby d2_73) (by decide) (by decide) kk) ?_
                refine own_st (F' := T5.setTop (mkF m 78 #[.val (.int p1), .val (.int p2), .val (.int (0 : Int32)), .val (.int (1 : Int32))] [])) (fun t_ kk => XS.istoreN X5.here hx rfl (hb hby d2_77) rfl (l' := #[.val (.int p1), .val (.int p2), .val (.int (0 : Int32)), .val (.int (1 : Int32))]) rfl kk) ?_
                refine own_st (F' := T5.setTop (mkF m 79 #[.val (.int p1), .val (.int p2), .val (.int (0 : Int32)), .val (.int (1 : Int32))] [(.int (0 : Int32))])) (fun t_ kk => XS.iloadN X5.here hx rfl (hb hby d2_78) rfl kk) ?_
                refine own_st (F' := T5.setTop (mkF m 82 #[.val (.int p1), .val (.int p2), .val (.int (0 : Int32)), .val (.int (1 : Int32))] [])) (fun t_ kk => XS.ifNo X5.here hx rfl (hb hby d2_79) rfl ((if0 _ _).trans (teq (by decide : (0 : Int32) = (0 : Int32))).2) kk) ?_
                refine own_st (F' := T5.setTop (mkF m 83 #[.val (.int p1), .val (.int p2), .val (.int (0 : Int32)), .val (.int (1 : Int32))] [(.int (1 : Int32))])) (fun t_ kk => XS.iloadN X5.here hx rfl (hb hby d2_82) rfl kk) ?_
                refine own_st (F' := T5.setTop (mkF m 86 #[.val (.int p1), .val (.int p2), .val (.int (0 : Int32)), .val (.int (1 : Int32))] [])) (fun t_ kk => XS.ifNo X5.here hx rfl (hb hby d2_83) rfl ((if0 _ _).trans (feq (by decide : ¬ ((1 : Int32) = (0 : Int32)))).1) kk) ?_
                refine own_st (F' := T5.setTop (mkF m 87 #[.val (.int p1), .val (.int p2), .val (.int (0 : Int32)), .val (.int (1 : Int32))] [(.int (1 : Int32))])) (fun t_ kk => XS.iconst X5.here hx rfl (hb hby d2_86) kk) ?_
                refine own_st (F' := T5.setTop (mkF m 91 #[.val (.int p1), .val (.int p2), .val (.int (0 : Int32)), .val (.int (1 : Int32))] [(.int (1 : Int32))])) (fun t_ kk => XS.goto X5.here hx rfl (pc0 := 87) (pc' := 91) rfl (hb hby d2_87) (by decide) (by decide) kk) ?_
                refine own_fin X5 (some (.int (1 : Int32))) (fun h => by rw [Bd.returns] at h; cases h) Bd.notSynchronized (by decide) (by decide) (fun fs hr => retN X5 hx (t := .boolean) Bd.returns (by simp) (hb hby d2_91) hr) ?_
                rw [e5]
                have q : OChar p1 p2 := by clear hw; simp only [oIn_1] at *; simp only [OChar, OIn, Int32.lt_iff_toInt_lt, ← Int32.toInt_inj, Int32.reduceToInt] at *; omega
                exact ⟨by rw [oChar, if_pos q], N5, rfl⟩
              · -- pc 69: not p1 = (13 : Int32)
                refine own_st (F' := T5.setTop (mkF m 76 #[.val (.int p1), .val (.int p2), .val (.int (0 : Int32)), .unset] [])) (fun t_ kk => XS.icmpYes X5.here hx rfl (pc0 := 69) (pc' := 76) rfl (hb hby d2_69) rfl (feq hc10).2 (by decide) (by decide) kk) ?_
                refine own_st (F' := T5.setTop (mkF m 77 #[.val (.int p1), .val (.int p2), .val (.int (0 : Int32)), .unset] [(.int (0 : Int32))])) (fun t_ kk => XS.iconst X5.here hx rfl (hb hby d2_76) kk) ?_
                refine own_st (F' := T5.setTop (mkF m 78 #[.val (.int p1), .val (.int p2), .val (.int (0 : Int32)), .val (.int (0 : Int32))] [])) (fun t_ kk => XS.istoreN X5.here hx rfl (hb hby d2_77) rfl (l' := #[.val (.int p1), .val (.int p2), .val (.int (0 : Int32)), .val (.int (0 : Int32))]) rfl kk) ?_
                refine own_st (F' := T5.setTop (mkF m 79 #[.val (.int p1), .val (.int p2), .val (.int (0 : Int32)), .val (.int (0 : Int32))] [(.int (0 : Int32))])) (fun t_ kk => XS.iloadN X5.here hx rfl (hb hby d2_78) rfl kk) ?_
                refine own_st (F' := T5.setTop (mkF m 82 #[.val (.int p1), .val (.int p2), .val (.int (0 : Int32)), .val (.int (0 : Int32))] [])) (fun t_ kk => XS.ifNo X5.here hx rfl (hb hby d2_79) rfl ((if0 _ _).trans (teq (by decide : (0 : Int32) = (0 : Int32))).2) kk) ?_
                refine own_st (F' := T5.setTop (mkF m 83 #[.val (.int p1), .val (.int p2), .val (.int (0 : Int32)), .val (.int (0 : Int32))] [(.int (0 : Int32))])) (fun t_ kk => XS.iloadN X5.here hx rfl (hb hby d2_82) rfl kk) ?_
                refine own_st (F' := T5.setTop (mkF m 90 #[.val (.int p1), .val (.int p2), .val (.int (0 : Int32)), .val (.int (0 : Int32))] [])) (fun t_ kk => XS.ifYes X5.here hx rfl (pc0 := 83) (pc' := 90) rfl (hb hby d2_83) rfl ((if0 _ _).trans (teq (by decide : (0 : Int32) = (0 : Int32))).1) (by decide) (by decide) kk) ?_
                refine own_st (F' := T5.setTop (mkF m 91 #[.val (.int p1), .val (.int p2), .val (.int (0 : Int32)), .val (.int (0 : Int32))] [(.int (0 : Int32))])) (fun t_ kk => XS.iconst X5.here hx rfl (hb hby d2_90) kk) ?_
                refine own_fin X5 (some (.int (0 : Int32))) (fun h => by rw [Bd.returns] at h; cases h) Bd.notSynchronized (by decide) (by decide) (fun fs hr => retN X5 hx (t := .boolean) Bd.returns (by simp) (hb hby d2_91) hr) ?_
                rw [e5]
                have q : ¬ OChar p1 p2 := by clear hw; simp only [oIn_1] at *; simp only [OChar, OIn, Int32.lt_iff_toInt_lt, ← Int32.toInt_inj, Int32.reduceToInt] at *; omega
                exact ⟨by rw [oChar, if_neg q], N5, rfl⟩
        · -- pc 40: not p2 = (0 : Int32)
          refine own_st (F' := T5.setTop (mkF m 43 #[.val (.int p1), .val (.int p2), .val (.int (0 : Int32)), .unset] [])) (fun t_ kk => XS.ifNo X5.here hx rfl (hb hby d2_40) rfl ((if0 _ _).trans (feq hc7).1) kk) ?_
          refine own_st (F' := T5.setTop (mkF m 44 #[.val (.int p1), .val (.int p2), .val (.int (0 : Int32)), .unset] [(.int p1)])) (fun t_ kk => XS.iloadN X5.here hx rfl (hb hby d2_43) rfl kk) ?_
          refine own_st (F' := T5.setTop (mkF m 45 #[.val (.int p1), .val (.int p2), .val (.int (0 : Int32)), .unset] [(.int (1 : Int32)), (.int p1)])) (fun t_ kk => XS.iconst X5.here hx rfl (hb hby d2_44) kk) ?_
          refine own_st (F' := T5.setTop (mkF m 47 #[.val (.int p1), .val (.int p2), .val (.int (0 : Int32)), .unset] [(.int (31 : Int32)), (.int (1 : Int32)), (.int p1)])) (fun t_ kk => XS.bipush X5.here hx rfl (hb hby d2_45) kk) ?_
          refine own_callS X5 hx hZ (y := (⟨"com/example/ascribe/ascribe/XmlNamesIsCharPinLaw", "in", "(III)Z"⟩ : MethodName)) hown (hw _ (List.mem_of_getElem? (i := 16) rfl)) (hw _ (List.mem_of_getElem? (i := 17) rfl)) (hw _ (List.mem_of_getElem? (i := 14) rfl)) (hw _ (List.mem_of_getElem? (i := 18) rfl)) (rm3 l Z a0 hw [] p1 (1 : Int32) (31 : Int32) h0 n0 Z0) (by decide) (W := 0) (argsL := [(.int p1), (.int (1 : Int32)), (.int (31 : Int32))]) (rest := []) (by decide) (by decide) (by rw [hml]; rfl) (lenOf own_pd0 rfl) rfl rfl (Nat.le_of_eq rfl) (hb hby d2_47) e5 (by decide) (by decide) ?_
          intro v11 T11 L11 hQ11 X11
          obtain ⟨rfl, N11q, e11⟩ := hQ11
          have N11 := Fr.app N5 N11q
          show OWp p e below s _ _ _ (T11.setTop (mkF m 50 #[.val (.int p1), .val (.int p2), .val (.int (0 : Int32)), .unset] [(.int (oIn p1 (1 : Int32) (31 : Int32)))]))
          refine own_st (F' := T11.setTop (mkF m 51 #[.val (.int p1), .val (.int p2), .val (.int (0 : Int32)), .val (.int (oIn p1 (1 : Int32) (31 : Int32)))] [])) (fun t_ kk => XS.istoreN X11.here hx rfl (hb hby d2_50) rfl (l' := #[.val (.int p1), .val (.int p2), .val (.int (0 : Int32)), .val (.int (oIn p1 (1 : Int32) (31 : Int32)))]) rfl kk) ?_
          refine own_st (F' := T11.setTop (mkF m 78 #[.val (.int p1), .val (.int p2), .val (.int (0 : Int32)), .val (.int (oIn p1 (1 : Int32) (31 : Int32)))] [])) (fun t_ kk => XS.goto X11.here hx rfl (pc0 := 51) (pc' := 78) rfl (hb hby d2_51) (by decide) (by decide) kk) ?_
          refine own_st (F' := T11.setTop (mkF m 79 #[.val (.int p1), .val (.int p2), .val (.int (0 : Int32)), .val (.int (oIn p1 (1 : Int32) (31 : Int32)))] [(.int (0 : Int32))])) (fun t_ kk => XS.iloadN X11.here hx rfl (hb hby d2_78) rfl kk) ?_
          refine own_st (F' := T11.setTop (mkF m 82 #[.val (.int p1), .val (.int p2), .val (.int (0 : Int32)), .val (.int (oIn p1 (1 : Int32) (31 : Int32)))] [])) (fun t_ kk => XS.ifNo X11.here hx rfl (hb hby d2_79) rfl ((if0 _ _).trans (teq (by decide : (0 : Int32) = (0 : Int32))).2) kk) ?_
          refine own_st (F' := T11.setTop (mkF m 83 #[.val (.int p1), .val (.int p2), .val (.int (0 : Int32)), .val (.int (oIn p1 (1 : Int32) (31 : Int32)))] [(.int (oIn p1 (1 : Int32) (31 : Int32)))])) (fun t_ kk => XS.iloadN X11.here hx rfl (hb hby d2_82) rfl kk) ?_
          by_cases hc12 : (oIn p1 (1 : Int32) (31 : Int32)) = (0 : Int32)
          · -- pc 83: (oIn p1 (1 : Int32) (31 : Int32)) = (0 : Int32)
            refine own_st (F' := T11.setTop (mkF m 90 #[.val (.int p1), .val (.int p2), .val (.int (0 : Int32)), .val (.int (oIn p1 (1 : Int32) (31 : Int32)))] [])) (fun t_ kk => XS.ifYes X11.here hx rfl (pc0 := 83) (pc' := 90) rfl (hb hby d2_83) rfl ((if0 _ _).trans (teq hc12).1) (by decide) (by decide) kk) ?_
            refine own_st (F' := T11.setTop (mkF m 91 #[.val (.int p1), .val (.int p2), .val (.int (0 : Int32)), .val (.int (oIn p1 (1 : Int32) (31 : Int32)))] [(.int (0 : Int32))])) (fun t_ kk => XS.iconst X11.here hx rfl (hb hby d2_90) kk) ?_
            refine own_fin X11 (some (.int (0 : Int32))) (fun h => by rw [Bd.returns] at h; cases h) Bd.notSynchronized (by decide) (by decide) (fun fs hr => retN X11 hx (t := .boolean) Bd.returns (by simp) (hb hby d2_91) hr) ?_
            rw [e11]
            have q : ¬ OChar p1 p2 := by clear hw; simp only [oIn_1] at *; simp only [OChar, OIn, Int32.lt_iff_toInt_lt, ← Int32.toInt_inj, Int32.reduceToInt] at *; omega
            exact ⟨by rw [oChar, if_neg q], N11, rfl⟩
          · -- pc 83: not (oIn p1 (1 : Int32) (31 : Int32)) = (0 : Int32)
            refine own_st (F' := T11.setTop (mkF m 86 #[.val (.int p1), .val (.int p2), .val (.int (0 : Int32)), .val (.int (oIn p1 (1 : Int32) (31 : Int32)))] [])) (fun t_ kk => XS.ifNo X11.here hx rfl (hb hby d2_83) rfl ((if0 _ _).trans (feq hc12).1) kk) ?_
            refine own_st (F' := T11.setTop (mkF m 87 #[.val (.int p1), .val (.int p2), .val (.int (0 : Int32)), .val (.int (oIn p1 (1 : Int32) (31 : Int32)))] [(.int (1 : Int32))])) (fun t_ kk => XS.iconst X11.here hx rfl (hb hby d2_86) kk) ?_
            refine own_st (F' := T11.setTop (mkF m 91 #[.val (.int p1), .val (.int p2), .val (.int (0 : Int32)), .val (.int (oIn p1 (1 : Int32) (31 : Int32)))] [(.int (1 : Int32))])) (fun t_ kk => XS.goto X11.here hx rfl (pc0 := 87) (pc' := 91) rfl (hb hby d2_87) (by decide) (by decide) kk) ?_
            refine own_fin X11 (some (.int (1 : Int32))) (fun h => by rw [Bd.returns] at h; cases h) Bd.notSynchronized (by decide) (by decide) (fun fs hr => retN X11 hx (t := .boolean) Bd.returns (by simp) (hb hby d2_91) hr) ?_
            rw [e11]
            have q : OChar p1 p2 := by clear hw; simp only [oIn_1] at *; simp only [OChar, OIn, Int32.lt_iff_toInt_lt, ← Int32.toInt_inj, Int32.reduceToInt] at *; omega
            exact ⟨by rw [oChar, if_pos q], N11, rfl⟩
      · -- pc 30: not (oIn p1 (65536 : Int32) (1114111 : Int32)) = (0 : Int32)
        refine own_st (F' := T5.setTop (mkF m 33 #[.val (.int p1), .val (.int p2), .unset, .unset] [])) (fun t_ kk => XS.ifNo X5.here hx rfl (hb hby d2_30) rfl ((if0 _ _).trans (feq hc6).1) kk) ?_
        refine own_st (F' := T5.setTop (mkF m 34 #[.val (.int p1), .val (.int p2), .unset, .unset] [(.int (1 : Int32))])) (fun t_ kk => XS.iconst X5.here hx rfl (hb hby d2_33) kk) ?_
        refine own_st (F' := T5.setTop (mkF m 38 #[.val (.int p1), .val (.int p2), .unset, .unset] [(.int (1 : Int32))])) (fun t_ kk => XS.goto X5.here hx rfl (pc0 := 34) (pc' := 38) rfl (hb hby d2_34) (by decide) (by decide) kk) ?_
        refine own_st (F' := T5.setTop (mkF m 39 #[.val (.int p1), .val (.int p2), .val (.int (1 : Int32)), .unset] [])) (fun t_ kk => XS.istoreN X5.here hx rfl (hb hby d2_38) rfl (l' := #[.val (.int p1), .val (.int p2), .val (.int (1 : Int32)), .unset]) rfl kk) ?_
        refine own_st (F' := T5.setTop (mkF m 40 #[.val (.int p1), .val (.int p2), .val (.int (1 : Int32)), .unset] [(.int p2)])) (fun t_ kk => XS.iloadN X5.here hx rfl (hb hby d2_39) rfl kk) ?_
        by_cases hc13 : p2 = (0 : Int32)
        · -- pc 40: p2 = (0 : Int32)
          refine own_st (F' := T5.setTop (mkF m 54 #[.val (.int p1), .val (.int p2), .val (.int (1 : Int32)), .unset] [])) (fun t_ kk => XS.ifYes X5.here hx rfl (pc0 := 40) (pc' := 54) rfl (hb hby d2_40) rfl ((if0 _ _).trans (teq hc13).1) (by decide) (by decide) kk) ?_
          refine own_st (F' := T5.setTop (mkF m 55 #[.val (.int p1), .val (.int p2), .val (.int (1 : Int32)), .unset] [(.int p1)])) (fun t_ kk => XS.iloadN X5.here hx rfl (hb hby d2_54) rfl kk) ?_
          refine own_st (F' := T5.setTop (mkF m 57 #[.val (.int p1), .val (.int p2), .val (.int (1 : Int32)), .unset] [(.int (9 : Int32)), (.int p1)])) (fun t_ kk => XS.bipush X5.here hx rfl (hb hby d2_55) kk) ?_
          by_cases hc14 : p1 = (9 : Int32)
          · -- pc 57: p1 = (9 : Int32)
            refine own_st (F' := T5.setTop (mkF m 72 #[.val (.int p1), .val (.int p2), .val (.int (1 : Int32)), .unset] [])) (fun t_ kk => XS.icmpYes X5.here hx rfl (pc0 := 57) (pc' := 72) rfl (hb hby d2_57) rfl (teq hc14).1 (by decide) (by decide) kk) ?_
            refine own_st (F' := T5.setTop (mkF m 73 #[.val (.int p1), .val (.int p2), .val (.int (1 : Int32)), .unset] [(.int (1 : Int32))])) (fun t_ kk => XS.iconst X5.here hx rfl (hb hby d2_72) kk) ?_
            refine own_st (F' := T5.setTop (mkF m 77 #[.val (.int p1), .val (.int p2), .val (.int (1 : Int32)), .unset] [(.int (1 : Int32))])) (fun t_ kk => XS.goto X5.here hx rfl (pc0 := 73) (pc' := 77) rfl (hb hby d2_73) (by decide) (by decide) kk) ?_
            refine own_st (F' := T5.setTop (mkF m 78 #[.val (.int p1), .val (.int p2), .val (.int (1 : Int32)), .val (.int (1 : Int32))] [])) (fun t_ kk => XS.istoreN X5.here hx rfl (hb hby d2_77) rfl (l' := #[.val (.int p1), .val (.int p2), .val (.int (1 : Int32)), .val (.int (1 : Int32))]) rfl kk) ?_
            refine own_st (F' := T5.setTop (mkF m 79 #[.val (.int p1), .val (.int p2), .val (.int (1 : Int32)), .val (.int (1 : Int32))] [(.int (1 : Int32))])) (fun t_ kk => XS.iloadN X5.here hx rfl (hb hby d2_78) rfl kk) ?_
            refine own_st (F' := T5.setTop (mkF m 86 #[.val (.int p1), .val (.int p2), .val (.int (1 : Int32)), .val (.int (1 : Int32))] [])) (fun t_ kk => XS.ifYes X5.here hx rfl (pc0 := 79) (pc' := 86) rfl (hb hby d2_79) rfl ((if0 _ _).trans (feq (by decide : ¬ ((1 : Int32) = (0 : Int32)))).2) (by decide) (by decide) kk) ?_
            refine own_st (F' := T5.setTop (mkF m 87 #[.val (.int p1), .val (.int p2), .val (.int (1 : Int32)), .val (.int (1 : Int32))] [(.int (1 : Int32))])) (fun t_ kk => XS.iconst X5.here hx rfl (hb hby d2_86) kk) ?_
            refine own_st (F' := T5.setTop (mkF m 91 #[.val (.int p1), .val (.int p2), .val (.int (1 : Int32)), .val (.int (1 : Int32))] [(.int (1 : Int32))])) (fun t_ kk => XS.goto X5.here hx rfl (pc0 := 87) (pc' := 91) rfl (hb hby d2_87) (by decide) (by decide) kk) ?_
            refine own_fin X5 (some (.int (1 : Int32))) (fun h => by rw [Bd.returns] at h; cases h) Bd.notSynchronized (by decide) (by decide) (fun fs hr => retN X5 hx (t := .boolean) Bd.returns (by simp) (hb hby d2_91) hr) ?_
            rw [e5]
            have q : OChar p1 p2 := by clear hw; simp only [oIn_1] at *; simp only [OChar, OIn, Int32.lt_iff_toInt_lt, ← Int32.toInt_inj, Int32.reduceToInt] at *; omega
            exact ⟨by rw [oChar, if_pos q], N5, rfl⟩
          · -- pc 57: not p1 = (9 : Int32)
            refine own_st (F' := T5.setTop (mkF m 60 #[.val (.int p1), .val (.int p2), .val (.int (1 : Int32)), .unset] [])) (fun t_ kk => XS.icmpNo X5.here hx rfl (hb hby d2_57) rfl (feq hc14).1 kk) ?_
            refine own_st (F' := T5.setTop (mkF m 61 #[.val (.int p1), .val (.int p2), .val (.int (1 : Int32)), .unset] [(.int p1)])) (fun t_ kk => XS.iloadN X5.here hx rfl (hb hby d2_60) rfl kk) ?_
            refine own_st (F' := T5.setTop (mkF m 63 #[.val (.int p1), .val (.int p2), .val (.int (1 : Int32)), .unset] [(.int (10 : Int32)), (.int p1)])) (fun t_ kk => XS.bipush X5.here hx rfl (hb hby d2_61) kk) ?_
            by_cases hc15 : p1 = (10 : Int32)
            · -- pc 63: p1 = (10 : Int32)
              refine own_st (F' := T5.setTop (mkF m 72 #[.val (.int p1), .val (.int p2), .val (.int (1 : Int32)), .unset] [])) (fun t_ kk => XS.icmpYes X5.here hx rfl (pc0 := 63) (pc' := 72) rfl (hb hby d2_63) rfl (teq hc15).1 (by decide) (by decide) kk) ?_
              refine own_st (F' := T5.setTop (mkF m 73 #[.val (.int p1), .val (.int p2), .val (.int (1 : Int32)), .unset] [(.int (1 : Int32))])) (fun t_ kk => XS.iconst X5.here hx rfl (hb hby d2_72) kk) ?_
              refine own_st (F' := T5.setTop (mkF m 77 #[.val (.int p1), .val (.int p2), .val (.int (1 : Int32)), .unset] [(.int (1 : Int32))])) (fun t_ kk => XS.goto X5.here hx rfl (pc0 := 73) (pc' := 77) rfl (hb hby d2_73) (by decide) (by decide) kk) ?_
              refine own_st (F' := T5.setTop (mkF m 78 #[.val (.int p1), .val (.int p2), .val (.int (1 : Int32)), .val (.int (1 : Int32))] [])) (fun t_ kk => XS.istoreN X5.here hx rfl (hb hby d2_77) rfl (l' := #[.val (.int p1), .val (.int p2), .val (.int (1 : Int32)), .val (.int (1 : Int32))]) rfl kk) ?_
              refine own_st (F' := T5.setTop (mkF m 79 #[.val (.int p1), .val (.int p2), .val (.int (1 : Int32)), .val (.int (1 : Int32))] [(.int (1 : Int32))])) (fun t_ kk => XS.iloadN X5.here hx rfl (hb hby d2_78) rfl kk) ?_
              refine own_st (F' := T5.setTop (mkF m 86 #[.val (.int p1), .val (.int p2), .val (.int (1 : Int32)), .val (.int (1 : Int32))] [])) (fun t_ kk => XS.ifYes X5.here hx rfl (pc0 := 79) (pc' := 86) rfl (hb hby d2_79) rfl ((if0 _ _).trans (feq (by decide : ¬ ((1 : Int32) = (0 : Int32)))).2) (by decide) (by decide) kk) ?_
              refine own_st (F' := T5.setTop (mkF m 87 #[.val (.int p1), .val (.int p2), .val (.int (1 : Int32)), .val (.int (1 : Int32))] [(.int (1 : Int32))])) (fun t_ kk => XS.iconst X5.here hx rfl (hb hby d2_86) kk) ?_
              refine own_st (F' := T5.setTop (mkF m 91 #[.val (.int p1), .val (.int p2), .val (.int (1 : Int32)), .val (.int (1 : Int32))] [(.int (1 : Int32))])) (fun t_ kk => XS.goto X5.here hx rfl (pc0 := 87) (pc' := 91) rfl (hb hby d2_87) (by decide) (by decide) kk) ?_
              refine own_fin X5 (some (.int (1 : Int32))) (fun h => by rw [Bd.returns] at h; cases h) Bd.notSynchronized (by decide) (by decide) (fun fs hr => retN X5 hx (t := .boolean) Bd.returns (by simp) (hb hby d2_91) hr) ?_
              rw [e5]
              have q : OChar p1 p2 := by clear hw; simp only [oIn_1] at *; simp only [OChar, OIn, Int32.lt_iff_toInt_lt, ← Int32.toInt_inj, Int32.reduceToInt] at *; omega
              exact ⟨by rw [oChar, if_pos q], N5, rfl⟩
            · -- pc 63: not p1 = (10 : Int32)
              refine own_st (F' := T5.setTop (mkF m 66 #[.val (.int p1), .val (.int p2), .val (.int (1 : Int32)), .unset] [])) (fun t_ kk => XS.icmpNo X5.here hx rfl (hb hby d2_63) rfl (feq hc15).1 kk) ?_
              refine own_st (F' := T5.setTop (mkF m 67 #[.val (.int p1), .val (.int p2), .val (.int (1 : Int32)), .unset] [(.int p1)])) (fun t_ kk => XS.iloadN X5.here hx rfl (hb hby d2_66) rfl kk) ?_
              refine own_st (F' := T5.setTop (mkF m 69 #[.val (.int p1), .val (.int p2), .val (.int (1 : Int32)), .unset] [(.int (13 : Int32)), (.int p1)])) (fun t_ kk => XS.bipush X5.here hx rfl (hb hby d2_67) kk) ?_
              by_cases hc16 : p1 = (13 : Int32)
              · -- pc 69: p1 = (13 : Int32)
                refine own_st (F' := T5.setTop (mkF m 72 #[.val (.int p1), .val (.int p2), .val (.int (1 : Int32)), .unset] [])) (fun t_ kk => XS.icmpNo X5.here hx rfl (hb hby d2_69) rfl (teq hc16).2 kk) ?_
                refine own_st (F' := T5.setTop (mkF m 73 #[.val (.int p1), .val (.int p2), .val (.int (1 : Int32)), .unset] [(.int (1 : Int32))])) (fun t_ kk => XS.iconst X5.here hx rfl (hb hby d2_72) kk) ?_
                refine own_st (F' := T5.setTop (mkF m 77 #[.val (.int p1), .val (.int p2), .val (.int (1 : Int32)), .unset] [(.int (1 : Int32))])) (fun t_ kk => XS.goto X5.here hx rfl (pc0 := 73) (pc' := 77) rfl (hb hby d2_73) (by decide) (by decide) kk) ?_
                refine own_st (F' := T5.setTop (mkF m 78 #[.val (.int p1), .val (.int p2), .val (.int (1 : Int32)), .val (.int (1 : Int32))] [])) (fun t_ kk => XS.istoreN X5.here hx rfl (hb hby d2_77) rfl (l' := #[.val (.int p1), .val (.int p2), .val (.int (1 : Int32)), .val (.int (1 : Int32))]) rfl kk) ?_
                refine own_st (F' := T5.setTop (mkF m 79 #[.val (.int p1), .val (.int p2), .val (.int (1 : Int32)), .val (.int (1 : Int32))] [(.int (1 : Int32))])) (fun t_ kk => XS.iloadN X5.here hx rfl (hb hby d2_78) rfl kk) ?_
                refine own_st (F' := T5.setTop (mkF m 86 #[.val (.int p1), .val (.int p2), .val (.int (1 : Int32)), .val (.int (1 : Int32))] [])) (fun t_ kk => XS.ifYes X5.here hx rfl (pc0 := 79) (pc' := 86) rfl (hb hby d2_79) rfl ((if0 _ _).trans (feq (by decide : ¬ ((1 : Int32) = (0 : Int32)))).2) (by decide) (by decide) kk) ?_
                refine own_st (F' := T5.setTop (mkF m 87 #[.val (.int p1), .val (.int p2), .val (.int (1 : Int32)), .val (.int (1 : Int32))] [(.int (1 : Int32))])) (fun t_ kk => XS.iconst X5.here hx rfl (hb hby d2_86) kk) ?_
                refine own_st (F' := T5.setTop (mkF m 91 #[.val (.int p1), .val (.int p2), .val (.int (1 : Int32)), .val (.int (1 : Int32))] [(.int (1 : Int32))])) (fun t_ kk => XS.goto X5.here hx rfl (pc0 := 87) (pc' := 91) rfl (hb hby d2_87) (by decide) (by decide) kk) ?_
                refine own_fin X5 (some (.int (1 : Int32))) (fun h => by rw [Bd.returns] at h; cases h) Bd.notSynchronized (by decide) (by decide) (fun fs hr => retN X5 hx (t := .boolean) Bd.returns (by simp) (hb hby d2_91) hr) ?_
                rw [e5]
                have q : OChar p1 p2 := by clear hw; simp only [oIn_1] at *; simp only [OChar, OIn, Int32.lt_iff_toInt_lt, ← Int32.toInt_inj, Int32.reduceToInt] at *; omega
                exact ⟨by rw [oChar, if_pos q], N5, rfl⟩
              · -- pc 69: not p1 = (13 : Int32)
                refine own_st (F' := T5.setTop (mkF m 76 #[.val (.int p1), .val (.int p2), .val (.int (1 : Int32)), .unset] [])) (fun t_ kk => XS.icmpYes X5.here hx rfl (pc0 := 69) (pc' := 76) rfl (hb hby d2_69) rfl (feq hc16).2 (by decide) (by decide) kk) ?_
                refine own_st (F' := T5.setTop (mkF m 77 #[.val (.int p1), .val (.int p2), .val (.int (1 : Int32)), .unset] [(.int (0 : Int32))])) (fun t_ kk => XS.iconst X5.here hx rfl (hb hby d2_76) kk) ?_
                refine own_st (F' := T5.setTop (mkF m 78 #[.val (.int p1), .val (.int p2), .val (.int (1 : Int32)), .val (.int (0 : Int32))] [])) (fun t_ kk => XS.istoreN X5.here hx rfl (hb hby d2_77) rfl (l' := #[.val (.int p1), .val (.int p2), .val (.int (1 : Int32)), .val (.int (0 : Int32))]) rfl kk) ?_
                refine own_st (F' := T5.setTop (mkF m 79 #[.val (.int p1), .val (.int p2), .val (.int (1 : Int32)), .val (.int (0 : Int32))] [(.int (1 : Int32))])) (fun t_ kk => XS.iloadN X5.here hx rfl (hb hby d2_78) rfl kk) ?_
                refine own_st (F' := T5.setTop (mkF m 86 #[.val (.int p1), .val (.int p2), .val (.int (1 : Int32)), .val (.int (0 : Int32))] [])) (fun t_ kk => XS.ifYes X5.here hx rfl (pc0 := 79) (pc' := 86) rfl (hb hby d2_79) rfl ((if0 _ _).trans (feq (by decide : ¬ ((1 : Int32) = (0 : Int32)))).2) (by decide) (by decide) kk) ?_
                refine own_st (F' := T5.setTop (mkF m 87 #[.val (.int p1), .val (.int p2), .val (.int (1 : Int32)), .val (.int (0 : Int32))] [(.int (1 : Int32))])) (fun t_ kk => XS.iconst X5.here hx rfl (hb hby d2_86) kk) ?_
                refine own_st (F' := T5.setTop (mkF m 91 #[.val (.int p1), .val (.int p2), .val (.int (1 : Int32)), .val (.int (0 : Int32))] [(.int (1 : Int32))])) (fun t_ kk => XS.goto X5.here hx rfl (pc0 := 87) (pc' := 91) rfl (hb hby d2_87) (by decide) (by decide) kk) ?_
                refine own_fin X5 (some (.int (1 : Int32))) (fun h => by rw [Bd.returns] at h; cases h) Bd.notSynchronized (by decide) (by decide) (fun fs hr => retN X5 hx (t := .boolean) Bd.returns (by simp) (hb hby d2_91) hr) ?_
                rw [e5]
                have q : OChar p1 p2 := by clear hw; simp only [oIn_1] at *; simp only [OChar, OIn, Int32.lt_iff_toInt_lt, ← Int32.toInt_inj, Int32.reduceToInt] at *; omega
                exact ⟨by rw [oChar, if_pos q], N5, rfl⟩
        · -- pc 40: not p2 = (0 : Int32)
          refine own_st (F' := T5.setTop (mkF m 43 #[.val (.int p1), .val (.int p2), .val (.int (1 : Int32)), .unset] [])) (fun t_ kk => XS.ifNo X5.here hx rfl (hb hby d2_40) rfl ((if0 _ _).trans (feq hc13).1) kk) ?_
          refine own_st (F' := T5.setTop (mkF m 44 #[.val (.int p1), .val (.int p2), .val (.int (1 : Int32)), .unset] [(.int p1)])) (fun t_ kk => XS.iloadN X5.here hx rfl (hb hby d2_43) rfl kk) ?_
          refine own_st (F' := T5.setTop (mkF m 45 #[.val (.int p1), .val (.int p2), .val (.int (1 : Int32)), .unset] [(.int (1 : Int32)), (.int p1)])) (fun t_ kk => XS.iconst X5.here hx rfl (hb hby d2_44) kk) ?_
          refine own_st (F' := T5.setTop (mkF m 47 #[.val (.int p1), .val (.int p2), .val (.int (1 : Int32)), .unset] [(.int (31 : Int32)), (.int (1 : Int32)), (.int p1)])) (fun t_ kk => XS.bipush X5.here hx rfl (hb hby d2_45) kk) ?_
          refine own_callS X5 hx hZ (y := (⟨"com/example/ascribe/ascribe/XmlNamesIsCharPinLaw", "in", "(III)Z"⟩ : MethodName)) hown (hw _ (List.mem_of_getElem? (i := 16) rfl)) (hw _ (List.mem_of_getElem? (i := 17) rfl)) (hw _ (List.mem_of_getElem? (i := 14) rfl)) (hw _ (List.mem_of_getElem? (i := 18) rfl)) (rm3 l Z a0 hw [] p1 (1 : Int32) (31 : Int32) h0 n0 Z0) (by decide) (W := 0) (argsL := [(.int p1), (.int (1 : Int32)), (.int (31 : Int32))]) (rest := []) (by decide) (by decide) (by rw [hml]; rfl) (lenOf own_pd0 rfl) rfl rfl (Nat.le_of_eq rfl) (hb hby d2_47) e5 (by decide) (by decide) ?_
          intro v17 T17 L17 hQ17 X17
          obtain ⟨rfl, N17q, e17⟩ := hQ17
          have N17 := Fr.app N5 N17q
          show OWp p e below s _ _ _ (T17.setTop (mkF m 50 #[.val (.int p1), .val (.int p2), .val (.int (1 : Int32)), .unset] [(.int (oIn p1 (1 : Int32) (31 : Int32)))]))
          refine own_st (F' := T17.setTop (mkF m 51 #[.val (.int p1), .val (.int p2), .val (.int (1 : Int32)), .val (.int (oIn p1 (1 : Int32) (31 : Int32)))] [])) (fun t_ kk => XS.istoreN X17.here hx rfl (hb hby d2_50) rfl (l' := #[.val (.int p1), .val (.int p2), .val (.int (1 : Int32)), .val (.int (oIn p1 (1 : Int32) (31 : Int32)))]) rfl kk) ?_
          refine own_st (F' := T17.setTop (mkF m 78 #[.val (.int p1), .val (.int p2), .val (.int (1 : Int32)), .val (.int (oIn p1 (1 : Int32) (31 : Int32)))] [])) (fun t_ kk => XS.goto X17.here hx rfl (pc0 := 51) (pc' := 78) rfl (hb hby d2_51) (by decide) (by decide) kk) ?_
          refine own_st (F' := T17.setTop (mkF m 79 #[.val (.int p1), .val (.int p2), .val (.int (1 : Int32)), .val (.int (oIn p1 (1 : Int32) (31 : Int32)))] [(.int (1 : Int32))])) (fun t_ kk => XS.iloadN X17.here hx rfl (hb hby d2_78) rfl kk) ?_
          refine own_st (F' := T17.setTop (mkF m 86 #[.val (.int p1), .val (.int p2), .val (.int (1 : Int32)), .val (.int (oIn p1 (1 : Int32) (31 : Int32)))] [])) (fun t_ kk => XS.ifYes X17.here hx rfl (pc0 := 79) (pc' := 86) rfl (hb hby d2_79) rfl ((if0 _ _).trans (feq (by decide : ¬ ((1 : Int32) = (0 : Int32)))).2) (by decide) (by decide) kk) ?_
          refine own_st (F' := T17.setTop (mkF m 87 #[.val (.int p1), .val (.int p2), .val (.int (1 : Int32)), .val (.int (oIn p1 (1 : Int32) (31 : Int32)))] [(.int (1 : Int32))])) (fun t_ kk => XS.iconst X17.here hx rfl (hb hby d2_86) kk) ?_
          refine own_st (F' := T17.setTop (mkF m 91 #[.val (.int p1), .val (.int p2), .val (.int (1 : Int32)), .val (.int (oIn p1 (1 : Int32) (31 : Int32)))] [(.int (1 : Int32))])) (fun t_ kk => XS.goto X17.here hx rfl (pc0 := 87) (pc' := 91) rfl (hb hby d2_87) (by decide) (by decide) kk) ?_
          refine own_fin X17 (some (.int (1 : Int32))) (fun h => by rw [Bd.returns] at h; cases h) Bd.notSynchronized (by decide) (by decide) (fun fs hr => retN X17 hx (t := .boolean) Bd.returns (by simp) (hb hby d2_91) hr) ?_
          rw [e17]
          have q : OChar p1 p2 := by clear hw; simp only [oIn_1] at *; simp only [OChar, OIn, Int32.lt_iff_toInt_lt, ← Int32.toInt_inj, Int32.reduceToInt] at *; omega
          exact ⟨by rw [oChar, if_pos q], N17, rfl⟩
    · -- pc 19: not (oIn p1 (57344 : Int32) (65533 : Int32)) = (0 : Int32)
      refine own_st (F' := T3.setTop (mkF m 33 #[.val (.int p1), .val (.int p2), .unset, .unset] [])) (fun t_ kk => XS.ifYes X3.here hx rfl (pc0 := 19) (pc' := 33) rfl (hb hby d2_19) rfl ((if0 _ _).trans (feq hc4).2) (by decide) (by decide) kk) ?_
      refine own_st (F' := T3.setTop (mkF m 34 #[.val (.int p1), .val (.int p2), .unset, .unset] [(.int (1 : Int32))])) (fun t_ kk => XS.iconst X3.here hx rfl (hb hby d2_33) kk) ?_
      refine own_st (F' := T3.setTop (mkF m 38 #[.val (.int p1), .val (.int p2), .unset, .unset] [(.int (1 : Int32))])) (fun t_ kk => XS.goto X3.here hx rfl (pc0 := 34) (pc' := 38) rfl (hb hby d2_34) (by decide) (by decide) kk) ?_
      refine own_st (F' := T3.setTop (mkF m 39 #[.val (.int p1), .val (.int p2), .val (.int (1 : Int32)), .unset] [])) (fun t_ kk => XS.istoreN X3.here hx rfl (hb hby d2_38) rfl (l' := #[.val (.int p1), .val (.int p2), .val (.int (1 : Int32)), .unset]) rfl kk) ?_
      refine own_st (F' := T3.setTop (mkF m 40 #[.val (.int p1), .val (.int p2), .val (.int (1 : Int32)), .unset] [(.int p2)])) (fun t_ kk => XS.iloadN X3.here hx rfl (hb hby d2_39) rfl kk) ?_
      by_cases hc18 : p2 = (0 : Int32)
      · -- pc 40: p2 = (0 : Int32)
        refine own_st (F' := T3.setTop (mkF m 54 #[.val (.int p1), .val (.int p2), .val (.int (1 : Int32)), .unset] [])) (fun t_ kk => XS.ifYes X3.here hx rfl (pc0 := 40) (pc' := 54) rfl (hb hby d2_40) rfl ((if0 _ _).trans (teq hc18).1) (by decide) (by decide) kk) ?_
        refine own_st (F' := T3.setTop (mkF m 55 #[.val (.int p1), .val (.int p2), .val (.int (1 : Int32)), .unset] [(.int p1)])) (fun t_ kk => XS.iloadN X3.here hx rfl (hb hby d2_54) rfl kk) ?_
        refine own_st (F' := T3.setTop (mkF m 57 #[.val (.int p1), .val (.int p2), .val (.int (1 : Int32)), .unset] [(.int (9 : Int32)), (.int p1)])) (fun t_ kk => XS.bipush X3.here hx rfl (hb hby d2_55) kk) ?_
        by_cases hc19 : p1 = (9 : Int32)
        · -- pc 57: p1 = (9 : Int32)
          refine own_st (F' := T3.setTop (mkF m 72 #[.val (.int p1), .val (.int p2), .val (.int (1 : Int32)), .unset] [])) (fun t_ kk => XS.icmpYes X3.here hx rfl (pc0 := 57) (pc' := 72) rfl (hb hby d2_57) rfl (teq hc19).1 (by decide) (by decide) kk) ?_
          refine own_st (F' := T3.setTop (mkF m 73 #[.val (.int p1), .val (.int p2), .val (.int (1 : Int32)), .unset] [(.int (1 : Int32))])) (fun t_ kk => XS.iconst X3.here hx rfl (hb hby d2_72) kk) ?_
          refine own_st (F' := T3.setTop (mkF m 77 #[.val (.int p1), .val (.int p2), .val (.int (1 : Int32)), .unset] [(.int (1 : Int32))])) (fun t_ kk => XS.goto X3.here hx rfl (pc0 := 73) (pc' := 77) rfl (hb hby d2_73) (by decide) (by decide) kk) ?_
          refine own_st (F' := T3.setTop (mkF m 78 #[.val (.int p1), .val (.int p2), .val (.int (1 : Int32)), .val (.int (1 : Int32))] [])) (fun t_ kk => XS.istoreN X3.here hx rfl (hb hby d2_77) rfl (l' := #[.val (.int p1), .val (.int p2), .val (.int (1 : Int32)), .val (.int (1 : Int32))]) rfl kk) ?_
          refine own_st (F' := T3.setTop (mkF m 79 #[.val (.int p1), .val (.int p2), .val (.int (1 : Int32)), .val (.int (1 : Int32))] [(.int (1 : Int32))])) (fun t_ kk => XS.iloadN X3.here hx rfl (hb hby d2_78) rfl kk) ?_
          refine own_st (F' := T3.setTop (mkF m 86 #[.val (.int p1), .val (.int p2), .val (.int (1 : Int32)), .val (.int (1 : Int32))] [])) (fun t_ kk => XS.ifYes X3.here hx rfl (pc0 := 79) (pc' := 86) rfl (hb hby d2_79) rfl ((if0 _ _).trans (feq (by decide : ¬ ((1 : Int32) = (0 : Int32)))).2) (by decide) (by decide) kk) ?_
          refine own_st (F' := T3.setTop (mkF m 87 #[.val (.int p1), .val (.int p2), .val (.int (1 : Int32)), .val (.int (1 : Int32))] [(.int (1 : Int32))])) (fun t_ kk => XS.iconst X3.here hx rfl (hb hby d2_86) kk) ?_
          refine own_st (F' := T3.setTop (mkF m 91 #[.val (.int p1), .val (.int p2), .val (.int (1 : Int32)), .val (.int (1 : Int32))] [(.int (1 : Int32))])) (fun t_ kk => XS.goto X3.here hx rfl (pc0 := 87) (pc' := 91) rfl (hb hby d2_87) (by decide) (by decide) kk) ?_
          refine own_fin X3 (some (.int (1 : Int32))) (fun h => by rw [Bd.returns] at h; cases h) Bd.notSynchronized (by decide) (by decide) (fun fs hr => retN X3 hx (t := .boolean) Bd.returns (by simp) (hb hby d2_91) hr) ?_
          rw [e3]
          have q : OChar p1 p2 := by clear hw; simp only [oIn_1] at *; simp only [OChar, OIn, Int32.lt_iff_toInt_lt, ← Int32.toInt_inj, Int32.reduceToInt] at *; omega
          exact ⟨by rw [oChar, if_pos q], N3, rfl⟩
        · -- pc 57: not p1 = (9 : Int32)
          refine own_st (F' := T3.setTop (mkF m 60 #[.val (.int p1), .val (.int p2), .val (.int (1 : Int32)), .unset] [])) (fun t_ kk => XS.icmpNo X3.here hx rfl (hb hby d2_57) rfl (feq hc19).1 kk) ?_
          refine own_st (F' := T3.setTop (mkF m 61 #[.val (.int p1), .val (.int p2), .val (.int (1 : Int32)), .unset] [(.int p1)])) (fun t_ kk => XS.iloadN X3.here hx rfl (hb hby d2_60) rfl kk) ?_
          refine own_st (F' := T3.setTop (mkF m 63 #[.val (.int p1), .val (.int p2), .val (.int (1 : Int32)), .unset] [(.int (10 : Int32)), (.int p1)])) (fun t_ kk => XS.bipush X3.here hx rfl (hb hby d2_61) kk) ?_
          by_cases hc20 : p1 = (10 : Int32)
          · -- pc 63: p1 = (10 : Int32)
            refine own_st (F' := T3.setTop (mkF m 72 #[.val (.int p1), .val (.int p2), .val (.int (1 : Int32)), .unset] [])) (fun t_ kk => XS.icmpYes X3.here hx rfl (pc0 := 63) (pc' := 72) rfl (hb hby d2_63) rfl (teq hc20).1 (by decide) (by decide) kk) ?_
            refine own_st (F' := T3.setTop (mkF m 73 #[.val (.int p1), .val (.int p2), .val (.int (1 : Int32)), .unset] [(.int (1 : Int32))])) (fun t_ kk => XS.iconst X3.here hx rfl (hb hby d2_72) kk) ?_
            refine own_st (F' := T3.setTop (mkF m 77 #[.val (.int p1), .val (.int p2), .val (.int (1 : Int32)), .unset] [(.int (1 : Int32))])) (fun t_ kk => XS.goto X3.here hx rfl (pc0 := 73) (pc' := 77) rfl (hb hby d2_73) (by decide) (by decide) kk) ?_
            refine own_st (F' := T3.setTop (mkF m 78 #[.val (.int p1), .val (.int p2), .val (.int (1 : Int32)), .val (.int (1 : Int32))] [])) (fun t_ kk => XS.istoreN X3.here hx rfl (hb hby d2_77) rfl (l' := #[.val (.int p1), .val (.int p2), .val (.int (1 : Int32)), .val (.int (1 : Int32))]) rfl kk) ?_
            refine own_st (F' := T3.setTop (mkF m 79 #[.val (.int p1), .val (.int p2), .val (.int (1 : Int32)), .val (.int (1 : Int32))] [(.int (1 : Int32))])) (fun t_ kk => XS.iloadN X3.here hx rfl (hb hby d2_78) rfl kk) ?_
            refine own_st (F' := T3.setTop (mkF m 86 #[.val (.int p1), .val (.int p2), .val (.int (1 : Int32)), .val (.int (1 : Int32))] [])) (fun t_ kk => XS.ifYes X3.here hx rfl (pc0 := 79) (pc' := 86) rfl (hb hby d2_79) rfl ((if0 _ _).trans (feq (by decide : ¬ ((1 : Int32) = (0 : Int32)))).2) (by decide) (by decide) kk) ?_
            refine own_st (F' := T3.setTop (mkF m 87 #[.val (.int p1), .val (.int p2), .val (.int (1 : Int32)), .val (.int (1 : Int32))] [(.int (1 : Int32))])) (fun t_ kk => XS.iconst X3.here hx rfl (hb hby d2_86) kk) ?_
            refine own_st (F' := T3.setTop (mkF m 91 #[.val (.int p1), .val (.int p2), .val (.int (1 : Int32)), .val (.int (1 : Int32))] [(.int (1 : Int32))])) (fun t_ kk => XS.goto X3.here hx rfl (pc0 := 87) (pc' := 91) rfl (hb hby d2_87) (by decide) (by decide) kk) ?_
            refine own_fin X3 (some (.int (1 : Int32))) (fun h => by rw [Bd.returns] at h; cases h) Bd.notSynchronized (by decide) (by decide) (fun fs hr => retN X3 hx (t := .boolean) Bd.returns (by simp) (hb hby d2_91) hr) ?_
            rw [e3]
            have q : OChar p1 p2 := by clear hw; simp only [oIn_1] at *; simp only [OChar, OIn, Int32.lt_iff_toInt_lt, ← Int32.toInt_inj, Int32.reduceToInt] at *; omega
            exact ⟨by rw [oChar, if_pos q], N3, rfl⟩
          · -- pc 63: not p1 = (10 : Int32)
            refine own_st (F' := T3.setTop (mkF m 66 #[.val (.int p1), .val (.int p2), .val (.int (1 : Int32)), .unset] [])) (fun t_ kk => XS.icmpNo X3.here hx rfl (hb hby d2_63) rfl (feq hc20).1 kk) ?_
            refine own_st (F' := T3.setTop (mkF m 67 #[.val (.int p1), .val (.int p2), .val (.int (1 : Int32)), .unset] [(.int p1)])) (fun t_ kk => XS.iloadN X3.here hx rfl (hb hby d2_66) rfl kk) ?_
            refine own_st (F' := T3.setTop (mkF m 69 #[.val (.int p1), .val (.int p2), .val (.int (1 : Int32)), .unset] [(.int (13 : Int32)), (.int p1)])) (fun t_ kk => XS.bipush X3.here hx rfl (hb hby d2_67) kk) ?_
            by_cases hc21 : p1 = (13 : Int32)
            · -- pc 69: p1 = (13 : Int32)
              refine own_st (F' := T3.setTop (mkF m 72 #[.val (.int p1), .val (.int p2), .val (.int (1 : Int32)), .unset] [])) (fun t_ kk => XS.icmpNo X3.here hx rfl (hb hby d2_69) rfl (teq hc21).2 kk) ?_
              refine own_st (F' := T3.setTop (mkF m 73 #[.val (.int p1), .val (.int p2), .val (.int (1 : Int32)), .unset] [(.int (1 : Int32))])) (fun t_ kk => XS.iconst X3.here hx rfl (hb hby d2_72) kk) ?_
              refine own_st (F' := T3.setTop (mkF m 77 #[.val (.int p1), .val (.int p2), .val (.int (1 : Int32)), .unset] [(.int (1 : Int32))])) (fun t_ kk => XS.goto X3.here hx rfl (pc0 := 73) (pc' := 77) rfl (hb hby d2_73) (by decide) (by decide) kk) ?_
              refine own_st (F' := T3.setTop (mkF m 78 #[.val (.int p1), .val (.int p2), .val (.int (1 : Int32)), .val (.int (1 : Int32))] [])) (fun t_ kk => XS.istoreN X3.here hx rfl (hb hby d2_77) rfl (l' := #[.val (.int p1), .val (.int p2), .val (.int (1 : Int32)), .val (.int (1 : Int32))]) rfl kk) ?_
              refine own_st (F' := T3.setTop (mkF m 79 #[.val (.int p1), .val (.int p2), .val (.int (1 : Int32)), .val (.int (1 : Int32))] [(.int (1 : Int32))])) (fun t_ kk => XS.iloadN X3.here hx rfl (hb hby d2_78) rfl kk) ?_
              refine own_st (F' := T3.setTop (mkF m 86 #[.val (.int p1), .val (.int p2), .val (.int (1 : Int32)), .val (.int (1 : Int32))] [])) (fun t_ kk => XS.ifYes X3.here hx rfl (pc0 := 79) (pc' := 86) rfl (hb hby d2_79) rfl ((if0 _ _).trans (feq (by decide : ¬ ((1 : Int32) = (0 : Int32)))).2) (by decide) (by decide) kk) ?_
              refine own_st (F' := T3.setTop (mkF m 87 #[.val (.int p1), .val (.int p2), .val (.int (1 : Int32)), .val (.int (1 : Int32))] [(.int (1 : Int32))])) (fun t_ kk => XS.iconst X3.here hx rfl (hb hby d2_86) kk) ?_
              refine own_st (F' := T3.setTop (mkF m 91 #[.val (.int p1), .val (.int p2), .val (.int (1 : Int32)), .val (.int (1 : Int32))] [(.int (1 : Int32))])) (fun t_ kk => XS.goto X3.here hx rfl (pc0 := 87) (pc' := 91) rfl (hb hby d2_87) (by decide) (by decide) kk) ?_
              refine own_fin X3 (some (.int (1 : Int32))) (fun h => by rw [Bd.returns] at h; cases h) Bd.notSynchronized (by decide) (by decide) (fun fs hr => retN X3 hx (t := .boolean) Bd.returns (by simp) (hb hby d2_91) hr) ?_
              rw [e3]
              have q : OChar p1 p2 := by clear hw; simp only [oIn_1] at *; simp only [OChar, OIn, Int32.lt_iff_toInt_lt, ← Int32.toInt_inj, Int32.reduceToInt] at *; omega
              exact ⟨by rw [oChar, if_pos q], N3, rfl⟩
            · -- pc 69: not p1 = (13 : Int32)
              refine own_st (F' := T3.setTop (mkF m 76 #[.val (.int p1), .val (.int p2), .val (.int (1 : Int32)), .unset] [])) (fun t_ kk => XS.icmpYes X3.here hx rfl (pc0 := 69) (pc' := 76) rfl (hb hby d2_69) rfl (feq hc21).2 (by decide) (by decide) kk) ?_
              refine own_st (F' := T3.setTop (mkF m 77 #[.val (.int p1), .val (.int p2), .val (.int (1 : Int32)), .unset] [(.int (0 : Int32))])) (fun t_ kk => XS.iconst X3.here hx rfl (hb hby d2_76) kk) ?_
              refine own_st (F' := T3.setTop (mkF m 78 #[.val (.int p1), .val (.int p2), .val (.int (1 : Int32)), .val (.int (0 : Int32))] [])) (fun t_ kk => XS.istoreN X3.here hx rfl (hb hby d2_77) rfl (l' := #[.val (.int p1), .val (.int p2), .val (.int (1 : Int32)), .val (.int (0 : Int32))]) rfl kk) ?_
              refine own_st (F' := T3.setTop (mkF m 79 #[.val (.int p1), .val (.int p2), .val (.int (1 : Int32)), .val (.int (0 : Int32))] [(.int (1 : Int32))])) (fun t_ kk => XS.iloadN X3.here hx rfl (hb hby d2_78) rfl kk) ?_
              refine own_st (F' := T3.setTop (mkF m 86 #[.val (.int p1), .val (.int p2), .val (.int (1 : Int32)), .val (.int (0 : Int32))] [])) (fun t_ kk => XS.ifYes X3.here hx rfl (pc0 := 79) (pc' := 86) rfl (hb hby d2_79) rfl ((if0 _ _).trans (feq (by decide : ¬ ((1 : Int32) = (0 : Int32)))).2) (by decide) (by decide) kk) ?_
              refine own_st (F' := T3.setTop (mkF m 87 #[.val (.int p1), .val (.int p2), .val (.int (1 : Int32)), .val (.int (0 : Int32))] [(.int (1 : Int32))])) (fun t_ kk => XS.iconst X3.here hx rfl (hb hby d2_86) kk) ?_
              refine own_st (F' := T3.setTop (mkF m 91 #[.val (.int p1), .val (.int p2), .val (.int (1 : Int32)), .val (.int (0 : Int32))] [(.int (1 : Int32))])) (fun t_ kk => XS.goto X3.here hx rfl (pc0 := 87) (pc' := 91) rfl (hb hby d2_87) (by decide) (by decide) kk) ?_
              refine own_fin X3 (some (.int (1 : Int32))) (fun h => by rw [Bd.returns] at h; cases h) Bd.notSynchronized (by decide) (by decide) (fun fs hr => retN X3 hx (t := .boolean) Bd.returns (by simp) (hb hby d2_91) hr) ?_
              rw [e3]
              have q : OChar p1 p2 := by clear hw; simp only [oIn_1] at *; simp only [OChar, OIn, Int32.lt_iff_toInt_lt, ← Int32.toInt_inj, Int32.reduceToInt] at *; omega
              exact ⟨by rw [oChar, if_pos q], N3, rfl⟩
      · -- pc 40: not p2 = (0 : Int32)
        refine own_st (F' := T3.setTop (mkF m 43 #[.val (.int p1), .val (.int p2), .val (.int (1 : Int32)), .unset] [])) (fun t_ kk => XS.ifNo X3.here hx rfl (hb hby d2_40) rfl ((if0 _ _).trans (feq hc18).1) kk) ?_
        refine own_st (F' := T3.setTop (mkF m 44 #[.val (.int p1), .val (.int p2), .val (.int (1 : Int32)), .unset] [(.int p1)])) (fun t_ kk => XS.iloadN X3.here hx rfl (hb hby d2_43) rfl kk) ?_
        refine own_st (F' := T3.setTop (mkF m 45 #[.val (.int p1), .val (.int p2), .val (.int (1 : Int32)), .unset] [(.int (1 : Int32)), (.int p1)])) (fun t_ kk => XS.iconst X3.here hx rfl (hb hby d2_44) kk) ?_
        refine own_st (F' := T3.setTop (mkF m 47 #[.val (.int p1), .val (.int p2), .val (.int (1 : Int32)), .unset] [(.int (31 : Int32)), (.int (1 : Int32)), (.int p1)])) (fun t_ kk => XS.bipush X3.here hx rfl (hb hby d2_45) kk) ?_
        refine own_callS X3 hx hZ (y := (⟨"com/example/ascribe/ascribe/XmlNamesIsCharPinLaw", "in", "(III)Z"⟩ : MethodName)) hown (hw _ (List.mem_of_getElem? (i := 16) rfl)) (hw _ (List.mem_of_getElem? (i := 17) rfl)) (hw _ (List.mem_of_getElem? (i := 14) rfl)) (hw _ (List.mem_of_getElem? (i := 18) rfl)) (rm3 l Z a0 hw [] p1 (1 : Int32) (31 : Int32) h0 n0 Z0) (by decide) (W := 0) (argsL := [(.int p1), (.int (1 : Int32)), (.int (31 : Int32))]) (rest := []) (by decide) (by decide) (by rw [hml]; rfl) (lenOf own_pd0 rfl) rfl rfl (Nat.le_of_eq rfl) (hb hby d2_47) e3 (by decide) (by decide) ?_
        intro v22 T22 L22 hQ22 X22
        obtain ⟨rfl, N22q, e22⟩ := hQ22
        have N22 := Fr.app N3 N22q
        show OWp p e below s _ _ _ (T22.setTop (mkF m 50 #[.val (.int p1), .val (.int p2), .val (.int (1 : Int32)), .unset] [(.int (oIn p1 (1 : Int32) (31 : Int32)))]))
        refine own_st (F' := T22.setTop (mkF m 51 #[.val (.int p1), .val (.int p2), .val (.int (1 : Int32)), .val (.int (oIn p1 (1 : Int32) (31 : Int32)))] [])) (fun t_ kk => XS.istoreN X22.here hx rfl (hb hby d2_50) rfl (l' := #[.val (.int p1), .val (.int p2), .val (.int (1 : Int32)), .val (.int (oIn p1 (1 : Int32) (31 : Int32)))]) rfl kk) ?_
        refine own_st (F' := T22.setTop (mkF m 78 #[.val (.int p1), .val (.int p2), .val (.int (1 : Int32)), .val (.int (oIn p1 (1 : Int32) (31 : Int32)))] [])) (fun t_ kk => XS.goto X22.here hx rfl (pc0 := 51) (pc' := 78) rfl (hb hby d2_51) (by decide) (by decide) kk) ?_
        refine own_st (F' := T22.setTop (mkF m 79 #[.val (.int p1), .val (.int p2), .val (.int (1 : Int32)), .val (.int (oIn p1 (1 : Int32) (31 : Int32)))] [(.int (1 : Int32))])) (fun t_ kk => XS.iloadN X22.here hx rfl (hb hby d2_78) rfl kk) ?_
        refine own_st (F' := T22.setTop (mkF m 86 #[.val (.int p1), .val (.int p2), .val (.int (1 : Int32)), .val (.int (oIn p1 (1 : Int32) (31 : Int32)))] [])) (fun t_ kk => XS.ifYes X22.here hx rfl (pc0 := 79) (pc' := 86) rfl (hb hby d2_79) rfl ((if0 _ _).trans (feq (by decide : ¬ ((1 : Int32) = (0 : Int32)))).2) (by decide) (by decide) kk) ?_
        refine own_st (F' := T22.setTop (mkF m 87 #[.val (.int p1), .val (.int p2), .val (.int (1 : Int32)), .val (.int (oIn p1 (1 : Int32) (31 : Int32)))] [(.int (1 : Int32))])) (fun t_ kk => XS.iconst X22.here hx rfl (hb hby d2_86) kk) ?_
        refine own_st (F' := T22.setTop (mkF m 91 #[.val (.int p1), .val (.int p2), .val (.int (1 : Int32)), .val (.int (oIn p1 (1 : Int32) (31 : Int32)))] [(.int (1 : Int32))])) (fun t_ kk => XS.goto X22.here hx rfl (pc0 := 87) (pc' := 91) rfl (hb hby d2_87) (by decide) (by decide) kk) ?_
        refine own_fin X22 (some (.int (1 : Int32))) (fun h => by rw [Bd.returns] at h; cases h) Bd.notSynchronized (by decide) (by decide) (fun fs hr => retN X22 hx (t := .boolean) Bd.returns (by simp) (hb hby d2_91) hr) ?_
        rw [e22]
        have q : OChar p1 p2 := by clear hw; simp only [oIn_1] at *; simp only [OChar, OIn, Int32.lt_iff_toInt_lt, ← Int32.toInt_inj, Int32.reduceToInt] at *; omega
        exact ⟨by rw [oChar, if_pos q], N22, rfl⟩
  · -- pc 8: not (oIn p1 (32 : Int32) (55295 : Int32)) = (0 : Int32)
    refine own_st (F' := T1.setTop (mkF m 33 #[.val (.int p1), .val (.int p2), .unset, .unset] [])) (fun t_ kk => XS.ifYes X1.here hx rfl (pc0 := 8) (pc' := 33) rfl (hb hby d2_8) rfl ((if0 _ _).trans (feq hc2).2) (by decide) (by decide) kk) ?_
    refine own_st (F' := T1.setTop (mkF m 34 #[.val (.int p1), .val (.int p2), .unset, .unset] [(.int (1 : Int32))])) (fun t_ kk => XS.iconst X1.here hx rfl (hb hby d2_33) kk) ?_
    refine own_st (F' := T1.setTop (mkF m 38 #[.val (.int p1), .val (.int p2), .unset, .unset] [(.int (1 : Int32))])) (fun t_ kk => XS.goto X1.here hx rfl (pc0 := 34) (pc' := 38) rfl (hb hby d2_34) (by decide) (by decide) kk) ?_
    refine own_st (F' := T1.setTop (mkF m 39 #[.val (.int p1), .val (.int p2), .val (.int (1 : Int32)), .unset] [])) (fun t_ kk => XS.istoreN X1.here hx rfl (hb hby d2_38) rfl (l' := #[.val (.int p1), .val (.int p2), .val (.int (1 : Int32)), .unset]) rfl kk) ?_
    refine own_st (F' := T1.setTop (mkF m 40 #[.val (.int p1), .val (.int p2), .val (.int (1 : Int32)), .unset] [(.int p2)])) (fun t_ kk => XS.iloadN X1.here hx rfl (hb hby d2_39) rfl kk) ?_
    by_cases hc23 : p2 = (0 : Int32)
    · -- pc 40: p2 = (0 : Int32)
      refine own_st (F' := T1.setTop (mkF m 54 #[.val (.int p1), .val (.int p2), .val (.int (1 : Int32)), .unset] [])) (fun t_ kk => XS.ifYes X1.here hx rfl (pc0 := 40) (pc' := 54) rfl (hb hby d2_40) rfl ((if0 _ _).trans (teq hc23).1) (by decide) (by decide) kk) ?_
      refine own_st (F' := T1.setTop (mkF m 55 #[.val (.int p1), .val (.int p2), .val (.int (1 : Int32)), .unset] [(.int p1)])) (fun t_ kk => XS.iloadN X1.here hx rfl (hb hby d2_54) rfl kk) ?_
      refine own_st (F' := T1.setTop (mkF m 57 #[.val (.int p1), .val (.int p2), .val (.int (1 : Int32)), .unset] [(.int (9 : Int32)), (.int p1)])) (fun t_ kk => XS.bipush X1.here hx rfl (hb hby d2_55) kk) ?_
      by_cases hc24 : p1 = (9 : Int32)
      · -- pc 57: p1 = (9 : Int32)
        refine own_st (F' := T1.setTop (mkF m 72 #[.val (.int p1), .val (.int p2), .val (.int (1 : Int32)), .unset] [])) (fun t_ kk => XS.icmpYes X1.here hx rfl (pc0 := 57) (pc' := 72) rfl (hb hby d2_57) rfl (teq hc24).1 (by decide) (by decide) kk) ?_
        refine own_st (F' := T1.setTop (mkF m 73 #[.val (.int p1), .val (.int p2), .val (.int (1 : Int32)), .unset] [(.int (1 : Int32))])) (fun t_ kk => XS.iconst X1.here hx rfl (hb hby d2_72) kk) ?_
        refine own_st (F' := T1.setTop (mkF m 77 #[.val (.int p1), .val (.int p2), .val (.int (1 : Int32)), .unset] [(.int (1 : Int32))])) (fun t_ kk => XS.goto X1.here hx rfl (pc0 := 73) (pc' := 77) rfl (hb hby d2_73) (by decide) (by decide) kk) ?_
        refine own_st (F' := T1.setTop (mkF m 78 #[.val (.int p1), .val (.int p2), .val (.int (1 : Int32)), .val (.int (1 : Int32))] [])) (fun t_ kk => XS.istoreN X1.here hx rfl (hb hby d2_77) rfl (l' := #[.val (.int p1), .val (.int p2), .val (.int (1 : Int32)), .val (.int (1 : Int32))]) rfl kk) ?_
        refine own_st (F' := T1.setTop (mkF m 79 #[.val (.int p1), .val (.int p2), .val (.int (1 : Int32)), .val (.int (1 : Int32))] [(.int (1 : Int32))])) (fun t_ kk => XS.iloadN X1.here hx rfl (hb hby d2_78) rfl kk) ?_
        refine own_st (F' := T1.setTop (mkF m 86 #[.val (.int p1), .val (.int p2), .val (.int (1 : Int32)), .val (.int (1 : Int32))] [])) (fun t_ kk => XS.ifYes X1.here hx rfl (pc0 := 79) (pc' := 86) rfl (hb hby d2_79) rfl ((if0 _ _).trans (feq (by decide : ¬ ((1 : Int32) = (0 : Int32)))).2) (by decide) (by decide) kk) ?_
        refine own_st (F' := T1.setTop (mkF m 87 #[.val (.int p1), .val (.int p2), .val (.int (1 : Int32)), .val (.int (1 : Int32))] [(.int (1 : Int32))])) (fun t_ kk => XS.iconst X1.here hx rfl (hb hby d2_86) kk) ?_
        refine own_st (F' := T1.setTop (mkF m 91 #[.val (.int p1), .val (.int p2), .val (.int (1 : Int32)), .val (.int (1 : Int32))] [(.int (1 : Int32))])) (fun t_ kk => XS.goto X1.here hx rfl (pc0 := 87) (pc' := 91) rfl (hb hby d2_87) (by decide) (by decide) kk) ?_
        refine own_fin X1 (some (.int (1 : Int32))) (fun h => by rw [Bd.returns] at h; cases h) Bd.notSynchronized (by decide) (by decide) (fun fs hr => retN X1 hx (t := .boolean) Bd.returns (by simp) (hb hby d2_91) hr) ?_
        rw [e1]
        have q : OChar p1 p2 := by clear hw; simp only [oIn_1] at *; simp only [OChar, OIn, Int32.lt_iff_toInt_lt, ← Int32.toInt_inj, Int32.reduceToInt] at *; omega
        exact ⟨by rw [oChar, if_pos q], N1, rfl⟩
      · -- pc 57: not p1 = (9 : Int32)
        refine own_st (F' := T1.setTop (mkF m 60 #[.val (.int p1), .val (.int p2), .val (.int (1 : Int32)), .unset] [])) (fun t_ kk => XS.icmpNo X1.here hx rfl (hb hby d2_57) rfl (feq hc24).1 kk) ?_
        refine own_st (F' := T1.setTop (mkF m 61 #[.val (.int p1), .val (.int p2), .val (.int (1 : Int32)), .unset] [(.int p1)])) (fun t_ kk => XS.iloadN X1.here hx rfl (hb hby d2_60) rfl kk) ?_
        refine own_st (F' := T1.setTop (mkF m 63 #[.val (.int p1), .val (.int p2), .val (.int (1 : Int32)), .unset] [(.int (10 : Int32)), (.int p1)])) (fun t_ kk => XS.bipush X1.here hx rfl (hb hby d2_61) kk) ?_
        by_cases hc25 : p1 = (10 : Int32)
        · -- pc 63: p1 = (10 : Int32)
          refine own_st (F' := T1.setTop (mkF m 72 #[.val (.int p1), .val (.int p2), .val (.int (1 : Int32)), .unset] [])) (fun t_ kk => XS.icmpYes X1.here hx rfl (pc0 := 63) (pc' := 72) rfl (hb hby d2_63) rfl (teq hc25).1 (by decide) (by decide) kk) ?_
          refine own_st (F' := T1.setTop (mkF m 73 #[.val (.int p1), .val (.int p2), .val (.int (1 : Int32)), .unset] [(.int (1 : Int32))])) (fun t_ kk => XS.iconst X1.here hx rfl (hb hby d2_72) kk) ?_
          refine own_st (F' := T1.setTop (mkF m 77 #[.val (.int p1), .val (.int p2), .val (.int (1 : Int32)), .unset] [(.int (1 : Int32))])) (fun t_ kk => XS.goto X1.here hx rfl (pc0 := 73) (pc' := 77) rfl (hb hby d2_73) (by decide) (by decide) kk) ?_
          refine own_st (F' := T1.setTop (mkF m 78 #[.val (.int p1), .val (.int p2), .val (.int (1 : Int32)), .val (.int (1 : Int32))] [])) (fun t_ kk => XS.istoreN X1.here hx rfl (hb hby d2_77) rfl (l' := #[.val (.int p1), .val (.int p2), .val (.int (1 : Int32)), .val (.int (1 : Int32))]) rfl kk) ?_
          refine own_st (F' := T1.setTop (mkF m 79 #[.val (.int p1), .val (.int p2), .val (.int (1 : Int32)), .val (.int (1 : Int32))] [(.int (1 : Int32))])) (fun t_ kk => XS.iloadN X1.here hx rfl (hb hby d2_78) rfl kk) ?_
          refine own_st (F' := T1.setTop (mkF m 86 #[.val (.int p1), .val (.int p2), .val (.int (1 : Int32)), .val (.int (1 : Int32))] [])) (fun t_ kk => XS.ifYes X1.here hx rfl (pc0 := 79) (pc' := 86) rfl (hb hby d2_79) rfl ((if0 _ _).trans (feq (by decide : ¬ ((1 : Int32) = (0 : Int32)))).2) (by decide) (by decide) kk) ?_
          refine own_st (F' := T1.setTop (mkF m 87 #[.val (.int p1), .val (.int p2), .val (.int (1 : Int32)), .val (.int (1 : Int32))] [(.int (1 : Int32))])) (fun t_ kk => XS.iconst X1.here hx rfl (hb hby d2_86) kk) ?_
          refine own_st (F' := T1.setTop (mkF m 91 #[.val (.int p1), .val (.int p2), .val (.int (1 : Int32)), .val (.int (1 : Int32))] [(.int (1 : Int32))])) (fun t_ kk => XS.goto X1.here hx rfl (pc0 := 87) (pc' := 91) rfl (hb hby d2_87) (by decide) (by decide) kk) ?_
          refine own_fin X1 (some (.int (1 : Int32))) (fun h => by rw [Bd.returns] at h; cases h) Bd.notSynchronized (by decide) (by decide) (fun fs hr => retN X1 hx (t := .boolean) Bd.returns (by simp) (hb hby d2_91) hr) ?_
          rw [e1]
          have q : OChar p1 p2 := by clear hw; simp only [oIn_1] at *; simp only [OChar, OIn, Int32.lt_iff_toInt_lt, ← Int32.toInt_inj, Int32.reduceToInt] at *; omega
          exact ⟨by rw [oChar, if_pos q], N1, rfl⟩
        · -- pc 63: not p1 = (10 : Int32)
          refine own_st (F' := T1.setTop (mkF m 66 #[.val (.int p1), .val (.int p2), .val (.int (1 : Int32)), .unset] [])) (fun t_ kk => XS.icmpNo X1.here hx rfl (hb hby d2_63) rfl (feq hc25).1 kk) ?_
          refine own_st (F' := T1.setTop (mkF m 67 #[.val (.int p1), .val (.int p2), .val (.int (1 : Int32)), .unset] [(.int p1)])) (fun t_ kk => XS.iloadN X1.here hx rfl (hb hby d2_66) rfl kk) ?_
          refine own_st (F' := T1.setTop (mkF m 69 #[.val (.int p1), .val (.int p2), .val (.int (1 : Int32)), .unset] [(.int (13 : Int32)), (.int p1)])) (fun t_ kk => XS.bipush X1.here hx rfl (hb hby d2_67) kk) ?_
          by_cases hc26 : p1 = (13 : Int32)
          · -- pc 69: p1 = (13 : Int32)
            refine own_st (F' := T1.setTop (mkF m 72 #[.val (.int p1), .val (.int p2), .val (.int (1 : Int32)), .unset] [])) (fun t_ kk => XS.icmpNo X1.here hx rfl (hb hby d2_69) rfl (teq hc26).2 kk) ?_
            refine own_st (F' := T1.setTop (mkF m 73 #[.val (.int p1), .val (.int p2), .val (.int (1 : Int32)), .unset] [(.int (1 : Int32))])) (fun t_ kk => XS.iconst X1.here hx rfl (hb hby d2_72) kk) ?_
            refine own_st (F' := T1.setTop (mkF m 77 #[.val (.int p1), .val (.int p2), .val (.int (1 : Int32)), .unset] [(.int (1 : Int32))])) (fun t_ kk => XS.goto X1.here hx rfl (pc0 := 73) (pc' := 77) rfl (hb hby d2_73) (by decide) (by decide) kk) ?_
            refine own_st (F' := T1.setTop (mkF m 78 #[.val (.int p1), .val (.int p2), .val (.int (1 : Int32)), .val (.int (1 : Int32))] [])) (fun t_ kk => XS.istoreN X1.here hx rfl (hb hby d2_77) rfl (l' := #[.val (.int p1), .val (.int p2), .val (.int (1 : Int32)), .val (.int (1 : Int32))]) rfl kk) ?_
            refine own_st (F' := T1.setTop (mkF m 79 #[.val (.int p1), .val (.int p2), .val (.int (1 : Int32)), .val (.int (1 : Int32))] [(.int (1 : Int32))])) (fun t_ kk => XS.iloadN X1.here hx rfl (hb hby d2_78) rfl kk) ?_
            refine own_st (F' := T1.setTop (mkF m 86 #[.val (.int p1), .val (.int p2), .val (.int (1 : Int32)), .val (.int (1 : Int32))] [])) (fun t_ kk => XS.ifYes X1.here hx rfl (pc0 := 79) (pc' := 86) rfl (hb hby d2_79) rfl ((if0 _ _).trans (feq (by decide : ¬ ((1 : Int32) = (0 : Int32)))).2) (by decide) (by decide) kk) ?_
            refine own_st (F' := T1.setTop (mkF m 87 #[.val (.int p1), .val (.int p2), .val (.int (1 : Int32)), .val (.int (1 : Int32))] [(.int (1 : Int32))])) (fun t_ kk => XS.iconst X1.here hx rfl (hb hby d2_86) kk) ?_
            refine own_st (F' := T1.setTop (mkF m 91 #[.val (.int p1), .val (.int p2), .val (.int (1 : Int32)), .val (.int (1 : Int32))] [(.int (1 : Int32))])) (fun t_ kk => XS.goto X1.here hx rfl (pc0 := 87) (pc' := 91) rfl (hb hby d2_87) (by decide) (by decide) kk) ?_
            refine own_fin X1 (some (.int (1 : Int32))) (fun h => by rw [Bd.returns] at h; cases h) Bd.notSynchronized (by decide) (by decide) (fun fs hr => retN X1 hx (t := .boolean) Bd.returns (by simp) (hb hby d2_91) hr) ?_
            rw [e1]
            have q : OChar p1 p2 := by clear hw; simp only [oIn_1] at *; simp only [OChar, OIn, Int32.lt_iff_toInt_lt, ← Int32.toInt_inj, Int32.reduceToInt] at *; omega
            exact ⟨by rw [oChar, if_pos q], N1, rfl⟩
          · -- pc 69: not p1 = (13 : Int32)
            refine own_st (F' := T1.setTop (mkF m 76 #[.val (.int p1), .val (.int p2), .val (.int (1 : Int32)), .unset] [])) (fun t_ kk => XS.icmpYes X1.here hx rfl (pc0 := 69) (pc' := 76) rfl (hb hby d2_69) rfl (feq hc26).2 (by decide) (by decide) kk) ?_
            refine own_st (F' := T1.setTop (mkF m 77 #[.val (.int p1), .val (.int p2), .val (.int (1 : Int32)), .unset] [(.int (0 : Int32))])) (fun t_ kk => XS.iconst X1.here hx rfl (hb hby d2_76) kk) ?_
            refine own_st (F' := T1.setTop (mkF m 78 #[.val (.int p1), .val (.int p2), .val (.int (1 : Int32)), .val (.int (0 : Int32))] [])) (fun t_ kk => XS.istoreN X1.here hx rfl (hb hby d2_77) rfl (l' := #[.val (.int p1), .val (.int p2), .val (.int (1 : Int32)), .val (.int (0 : Int32))]) rfl kk) ?_
            refine own_st (F' := T1.setTop (mkF m 79 #[.val (.int p1), .val (.int p2), .val (.int (1 : Int32)), .val (.int (0 : Int32))] [(.int (1 : Int32))])) (fun t_ kk => XS.iloadN X1.here hx rfl (hb hby d2_78) rfl kk) ?_
            refine own_st (F' := T1.setTop (mkF m 86 #[.val (.int p1), .val (.int p2), .val (.int (1 : Int32)), .val (.int (0 : Int32))] [])) (fun t_ kk => XS.ifYes X1.here hx rfl (pc0 := 79) (pc' := 86) rfl (hb hby d2_79) rfl ((if0 _ _).trans (feq (by decide : ¬ ((1 : Int32) = (0 : Int32)))).2) (by decide) (by decide) kk) ?_
            refine own_st (F' := T1.setTop (mkF m 87 #[.val (.int p1), .val (.int p2), .val (.int (1 : Int32)), .val (.int (0 : Int32))] [(.int (1 : Int32))])) (fun t_ kk => XS.iconst X1.here hx rfl (hb hby d2_86) kk) ?_
            refine own_st (F' := T1.setTop (mkF m 91 #[.val (.int p1), .val (.int p2), .val (.int (1 : Int32)), .val (.int (0 : Int32))] [(.int (1 : Int32))])) (fun t_ kk => XS.goto X1.here hx rfl (pc0 := 87) (pc' := 91) rfl (hb hby d2_87) (by decide) (by decide) kk) ?_
            refine own_fin X1 (some (.int (1 : Int32))) (fun h => by rw [Bd.returns] at h; cases h) Bd.notSynchronized (by decide) (by decide) (fun fs hr => retN X1 hx (t := .boolean) Bd.returns (by simp) (hb hby d2_91) hr) ?_
            rw [e1]
            have q : OChar p1 p2 := by clear hw; simp only [oIn_1] at *; simp only [OChar, OIn, Int32.lt_iff_toInt_lt, ← Int32.toInt_inj, Int32.reduceToInt] at *; omega
            exact ⟨by rw [oChar, if_pos q], N1, rfl⟩
    · -- pc 40: not p2 = (0 : Int32)
      refine own_st (F' := T1.setTop (mkF m 43 #[.val (.int p1), .val (.int p2), .val (.int (1 : Int32)), .unset] [])) (fun t_ kk => XS.ifNo X1.here hx rfl (hb hby d2_40) rfl ((if0 _ _).trans (feq hc23).1) kk) ?_
      refine own_st (F' := T1.setTop (mkF m 44 #[.val (.int p1), .val (.int p2), .val (.int (1 : Int32)), .unset] [(.int p1)])) (fun t_ kk => XS.iloadN X1.here hx rfl (hb hby d2_43) rfl kk) ?_
      refine own_st (F' := T1.setTop (mkF m 45 #[.val (.int p1), .val (.int p2), .val (.int (1 : Int32)), .unset] [(.int (1 : Int32)), (.int p1)])) (fun t_ kk => XS.iconst X1.here hx rfl (hb hby d2_44) kk) ?_
      refine own_st (F' := T1.setTop (mkF m 47 #[.val (.int p1), .val (.int p2), .val (.int (1 : Int32)), .unset] [(.int (31 : Int32)), (.int (1 : Int32)), (.int p1)])) (fun t_ kk => XS.bipush X1.here hx rfl (hb hby d2_45) kk) ?_
      refine own_callS X1 hx hZ (y := (⟨"com/example/ascribe/ascribe/XmlNamesIsCharPinLaw", "in", "(III)Z"⟩ : MethodName)) hown (hw _ (List.mem_of_getElem? (i := 16) rfl)) (hw _ (List.mem_of_getElem? (i := 17) rfl)) (hw _ (List.mem_of_getElem? (i := 14) rfl)) (hw _ (List.mem_of_getElem? (i := 18) rfl)) (rm3 l Z a0 hw [] p1 (1 : Int32) (31 : Int32) h0 n0 Z0) (by decide) (W := 0) (argsL := [(.int p1), (.int (1 : Int32)), (.int (31 : Int32))]) (rest := []) (by decide) (by decide) (by rw [hml]; rfl) (lenOf own_pd0 rfl) rfl rfl (Nat.le_of_eq rfl) (hb hby d2_47) e1 (by decide) (by decide) ?_
      intro v27 T27 L27 hQ27 X27
      obtain ⟨rfl, N27q, e27⟩ := hQ27
      have N27 := Fr.app N1 N27q
      show OWp p e below s _ _ _ (T27.setTop (mkF m 50 #[.val (.int p1), .val (.int p2), .val (.int (1 : Int32)), .unset] [(.int (oIn p1 (1 : Int32) (31 : Int32)))]))
      refine own_st (F' := T27.setTop (mkF m 51 #[.val (.int p1), .val (.int p2), .val (.int (1 : Int32)), .val (.int (oIn p1 (1 : Int32) (31 : Int32)))] [])) (fun t_ kk => XS.istoreN X27.here hx rfl (hb hby d2_50) rfl (l' := #[.val (.int p1), .val (.int p2), .val (.int (1 : Int32)), .val (.int (oIn p1 (1 : Int32) (31 : Int32)))]) rfl kk) ?_
      refine own_st (F' := T27.setTop (mkF m 78 #[.val (.int p1), .val (.int p2), .val (.int (1 : Int32)), .val (.int (oIn p1 (1 : Int32) (31 : Int32)))] [])) (fun t_ kk => XS.goto X27.here hx rfl (pc0 := 51) (pc' := 78) rfl (hb hby d2_51) (by decide) (by decide) kk) ?_
      refine own_st (F' := T27.setTop (mkF m 79 #[.val (.int p1), .val (.int p2), .val (.int (1 : Int32)), .val (.int (oIn p1 (1 : Int32) (31 : Int32)))] [(.int (1 : Int32))])) (fun t_ kk => XS.iloadN X27.here hx rfl (hb hby d2_78) rfl kk) ?_
      refine own_st (F' := T27.setTop (mkF m 86 #[.val (.int p1), .val (.int p2), .val (.int (1 : Int32)), .val (.int (oIn p1 (1 : Int32) (31 : Int32)))] [])) (fun t_ kk => XS.ifYes X27.here hx rfl (pc0 := 79) (pc' := 86) rfl (hb hby d2_79) rfl ((if0 _ _).trans (feq (by decide : ¬ ((1 : Int32) = (0 : Int32)))).2) (by decide) (by decide) kk) ?_
      refine own_st (F' := T27.setTop (mkF m 87 #[.val (.int p1), .val (.int p2), .val (.int (1 : Int32)), .val (.int (oIn p1 (1 : Int32) (31 : Int32)))] [(.int (1 : Int32))])) (fun t_ kk => XS.iconst X27.here hx rfl (hb hby d2_86) kk) ?_
      refine own_st (F' := T27.setTop (mkF m 91 #[.val (.int p1), .val (.int p2), .val (.int (1 : Int32)), .val (.int (oIn p1 (1 : Int32) (31 : Int32)))] [(.int (1 : Int32))])) (fun t_ kk => XS.goto X27.here hx rfl (pc0 := 87) (pc' := 91) rfl (hb hby d2_87) (by decide) (by decide) kk) ?_
      refine own_fin X27 (some (.int (1 : Int32))) (fun h => by rw [Bd.returns] at h; cases h) Bd.notSynchronized (by decide) (by decide) (fun fs hr => retN X27 hx (t := .boolean) Bd.returns (by simp) (hb hby d2_91) hr) ?_
      rw [e27]
      have q : OChar p1 p2 := by clear hw; simp only [oIn_1] at *; simp only [OChar, OIn, Int32.lt_iff_toInt_lt, ← Int32.toInt_inj, Int32.reduceToInt] at *; omega
      exact ⟨by rw [oChar, if_pos q], N27, rfl⟩
def Q0 (p1 p2 p3 : Int32) (h0 : Heap) (n0 : Nat) (v : Option Value) (h : Heap) (L : List Loc) : Prop := v = some (.int 1) ∧ Fr n0 L
theorem ef_0 (m : MethodId) (x0 : Int32) (x1 : Int32) (x2 : Int32) : entryFrame m #[(.int x0), (.int x1), (.int x2)] maxLocals = mkF m 0 #[.val (.int x0), .val (.int x1), .val (.int x2), .unset, .unset, .unset] [] := by first | (simp [entryFrame, mkF, argsToLocals, Value.category, maxLocals]; done) | rfl
theorem pn_0 : plainName "com/example/ascribe/ascribe/XmlNamesIsCharPinLaw" = true := by first | (simp [plainName, overriddenIn]; done) | decide +kernel
set_option maxRecDepth 65536 in
set_option maxHeartbeats 40000000 in
theorem rm0 (l : Launch) (Z : State) (a0 : Array Value) (hw : ∀ d ∈ tables_1, d.before a0 Z = true) (ws : List Jvm.Cond) (p1 p2 p3 : Int32) (h0 : Heap) (n0 : Nat) (Z0 : n0 ≤ h0.size)  :
    MetFree l x (head1 (Jvm.Cond.code x code maxLocals ret :: ws) room_1) (fun a U => a = #[(.int p1), (.int p2), (.int p3)] ∧ Z.Warmed39 U.vm ∧ U.heap = h0) (fun _ _ _ _ _ => True) (fun _ U o U' => ∃ v L, o = .returned v ∧ Q0 p1 p2 p3 h0 n0 v U'.heap L ∧ FrameEnd U o U' L room_1.cells room_1.slots) := by
  refine MetFree.of_bodySF (plainFor_of_name pn_0) hisR ?_
  intro p e s m args below meth c s₁ Bd hml0 hP hK
  obtain ⟨rfl, hZ, hh⟩ := hP
  have hx := Bd.exec
  have hby := Bd.bytes
  have hml : c.maxLocals = 6 := hml0
  have hown : s.vm.findClass "com/example/ascribe/ascribe/XmlNamesIsCharPinLaw" = some m.cls := findClass_of_methodNamed Bd.named
  have hnm := (name_of_methodNamed Bd.named Bd.method).1
  have X0 : Stand p l e room_1 s m #[(.int p1), (.int p2), (.int p3)] below meth c s₁ [] 0 0 := Stand.of_body Bd
  have e0 : s₁.heap = h0 := by rw [← hh, Bd.state]; rfl
  have N0 := Fr.nil n0
  suffices hgoal : OWp p e below s room_1.cells room_1.slots (Q0 p1 p2 p3 h0 n0) (s₁.setTop (mkF m 0 #[.val (.int p1), .val (.int p2), .val (.int p3), .unset, .unset, .unset] [])) by
    rw [← ef_0] at hgoal; exact hgoal
  refine own_st (F' := s₁.setTop (mkF m 2 #[.val (.int p1), .val (.int p2), .val (.int p3), .unset, .unset, .unset] [(.int (14 : Int32))])) (fun t_ kk => XS.bipush X0.here hx rfl (hb hby at_0) kk) ?_
  obtain ⟨T1, h1, k1, X1, e1, E1, A1, st1⟩ := newP X0 hx hZ (hw _ (List.mem_of_getElem? (i := 0) rfl)) e0 (g := (mkF m 2 #[.val (.int p1), .val (.int p2), .val (.int p3), .unset, .unset, .unset] [(.int (14 : Int32))])) rfl (hb hby at_2) rfl (by decide) (cap := 14) (by decide) (by decide) (by decide) (by decide)
  obtain ⟨b1, g1⟩ : ∃ z, z = h0.size := ⟨_, rfl⟩
  rw [← g1] at A1 st1
  have g_b1 : n0 ≤ b1 := Nat.le_trans Z0 (Nat.le_of_eq g1.symm)
  have sz_b1 : h0.size ≤ b1 := Nat.le_trans (Keep.refl h0 []).1 (Nat.le_of_eq g1.symm)
  have V1 : Arv Z h1 b1 k1 .int (14 : Int32) [(.int (0 : Int32)), (.int (0 : Int32)), (.int (0 : Int32)), (.int (0 : Int32)), (.int (0 : Int32)), (.int (0 : Int32)), (.int (0 : Int32)), (.int (0 : Int32)), (.int (0 : Int32)), (.int (0 : Int32)), (.int (0 : Int32)), (.int (0 : Int32)), (.int (0 : Int32)), (.int (0 : Int32))] (.int (0 : Int32)) := (Arv.new A1 (by decide)).pad (pad_rep [] (.int (0 : Int32)) 14)
  have K2 := Keep.ext (Keep.refl h0 []) E1
  have Z3 := Nat.le_trans Z0 E1.1
  refine own_st (F' := T1.setTop (mkF m 4 #[.val (.int p1), .val (.int p2), .val (.int p3), .unset, .unset, .unset] [(.ref b1)])) st1 ?_
  refine own_st (F' := T1.setTop (mkF m 5 #[.val (.int p1), .val (.int p2), .val (.int p3), .unset, .unset, .unset] [(.ref b1), (.ref b1)])) (fun t_ kk => XS.dup X1.here hx rfl (hb hby at_4) rfl rfl kk) ?_
  refine own_st (F' := T1.setTop (mkF m 6 #[.val (.int p1), .val (.int p2), .val (.int p3), .unset, .unset, .unset] [(.int (0 : Int32)), (.ref b1), (.ref b1)])) (fun t_ kk => XS.iconst X1.here hx rfl (hb hby at_5) kk) ?_
  refine own_st (F' := T1.setTop (mkF m 7 #[.val (.int p1), .val (.int p2), .val (.int p3), .unset, .unset, .unset] [(.int (0 : Int32)), (.int (0 : Int32)), (.ref b1), (.ref b1)])) (fun t_ kk => XS.iconst X1.here hx rfl (hb hby at_6) kk) ?_
  obtain ⟨T4, h4, X4, e4, W4, A4, st4⟩ := own_ist X1 hx hZ e1 V1 (pc := 7) (Ls := #[.val (.int p1), .val (.int p2), .val (.int p3), .unset, .unset, .unset]) (rest := [(.ref b1)]) (j := (0 : Int32)) (x := (0 : Int32)) 0 rfl (by decide) (by decide) (Nat.le_of_ble_eq_true rfl) (hb hby at_7)
  have K6 := Keep.wr K2 W4 (Or.inr sz_b1)
  have Z7 := Nat.le_trans Z3 (Keep.of_wr W4).1
  have N8 := Fr.snoc X4 N0 g_b1
  refine own_st (F' := T4.setTop (mkF m 8 #[.val (.int p1), .val (.int p2), .val (.int p3), .unset, .unset, .unset] [(.ref b1)])) st4 ?_
  refine own_st (F' := T4.setTop (mkF m 9 #[.val (.int p1), .val (.int p2), .val (.int p3), .unset, .unset, .unset] [(.ref b1), (.ref b1)])) (fun t_ kk => XS.dup X4.here hx rfl (hb hby at_8) rfl rfl kk) ?_
  refine own_st (F' := T4.setTop (mkF m 10 #[.val (.int p1), .val (.int p2), .val (.int p3), .unset, .unset, .unset] [(.int (1 : Int32)), (.ref b1), (.ref b1)])) (fun t_ kk => XS.iconst X4.here hx rfl (hb hby at_9) kk) ?_
  refine own_st (F' := T4.setTop (mkF m 11 #[.val (.int p1), .val (.int p2), .val (.int p3), .unset, .unset, .unset] [(.int (1 : Int32)), (.int (1 : Int32)), (.ref b1), (.ref b1)])) (fun t_ kk => XS.iconst X4.here hx rfl (hb hby at_10) kk) ?_
  obtain ⟨T9, h9, X9, e9, W9, A9, st9⟩ := own_ist X4 hx hZ e4 A4 (pc := 11) (Ls := #[.val (.int p1), .val (.int p2), .val (.int p3), .unset, .unset, .unset]) (rest := [(.ref b1)]) (j := (1 : Int32)) (x := (1 : Int32)) 1 rfl (by decide) (by decide) (Nat.le_of_ble_eq_true rfl) (hb hby at_11)
  have K11 := Keep.wr K6 W9 (Or.inr sz_b1)
  have Z12 := Nat.le_trans Z7 (Keep.of_wr W9).1
  have N13 := Fr.snoc X9 N8 g_b1
  refine own_st (F' := T9.setTop (mkF m 12 #[.val (.int p1), .val (.int p2), .val (.int p3), .unset, .unset, .unset] [(.ref b1)])) st9 ?_
  refine own_st (F' := T9.setTop (mkF m 13 #[.val (.int p1), .val (.int p2), .val (.int p3), .unset, .unset, .unset] [(.ref b1), (.ref b1)])) (fun t_ kk => XS.dup X9.here hx rfl (hb hby at_12) rfl rfl kk) ?_
  refine own_st (F' := T9.setTop (mkF m 14 #[.val (.int p1), .val (.int p2), .val (.int p3), .unset, .unset, .unset] [(.int (2 : Int32)), (.ref b1), (.ref b1)])) (fun t_ kk => XS.iconst X9.here hx rfl (hb hby at_13) kk) ?_
  refine own_st (F' := T9.setTop (mkF m 16 #[.val (.int p1), .val (.int p2), .val (.int p3), .unset, .unset, .unset] [(.int (9 : Int32)), (.int (2 : Int32)), (.ref b1), (.ref b1)])) (fun t_ kk => XS.bipush X9.here hx rfl (hb hby at_14) kk) ?_
  obtain ⟨T14, h14, X14, e14, W14, A14, st14⟩ := own_ist X9 hx hZ e9 A9 (pc := 16) (Ls := #[.val (.int p1), .val (.int p2), .val (.int p3), .unset, .unset, .unset]) (rest := [(.ref b1)]) (j := (2 : Int32)) (x := (9 : Int32)) 2 rfl (by decide) (by decide) (Nat.le_of_ble_eq_true rfl) (hb hby at_16)
  have K16 := Keep.wr K11 W14 (Or.inr sz_b1)
  have Z17 := Nat.le_trans Z12 (Keep.of_wr W14).1
  have N18 := Fr.snoc X14 N13 g_b1
  refine own_st (F' := T14.setTop (mkF m 17 #[.val (.int p1), .val (.int p2), .val (.int p3), .unset, .unset, .unset] [(.ref b1)])) st14 ?_
  refine own_st (F' := T14.setTop (mkF m 18 #[.val (.int p1), .val (.int p2), .val (.int p3), .unset, .unset, .unset] [(.ref b1), (.ref b1)])) (fun t_ kk => XS.dup X14.here hx rfl (hb hby at_17) rfl rfl kk) ?_
  refine own_st (F' := T14.setTop (mkF m 19 #[.val (.int p1), .val (.int p2), .val (.int p3), .unset, .unset, .unset] [(.int (3 : Int32)), (.ref b1), (.ref b1)])) (fun t_ kk => XS.iconst X14.here hx rfl (hb hby at_18) kk) ?_
  refine own_st (F' := T14.setTop (mkF m 21 #[.val (.int p1), .val (.int p2), .val (.int p3), .unset, .unset, .unset] [(.int (10 : Int32)), (.int (3 : Int32)), (.ref b1), (.ref b1)])) (fun t_ kk => XS.bipush X14.here hx rfl (hb hby at_19) kk) ?_
  obtain ⟨T19, h19, X19, e19, W19, A19, st19⟩ := own_ist X14 hx hZ e14 A14 (pc := 21) (Ls := #[.val (.int p1), .val (.int p2), .val (.int p3), .unset, .unset, .unset]) (rest := [(.ref b1)]) (j := (3 : Int32)) (x := (10 : Int32)) 3 rfl (by decide) (by decide) (Nat.le_of_ble_eq_true rfl) (hb hby at_21)
  have K21 := Keep.wr K16 W19 (Or.inr sz_b1)
  have Z22 := Nat.le_trans Z17 (Keep.of_wr W19).1
  have N23 := Fr.snoc X19 N18 g_b1
  refine own_st (F' := T19.setTop (mkF m 22 #[.val (.int p1), .val (.int p2), .val (.int p3), .unset, .unset, .unset] [(.ref b1)])) st19 ?_
  refine own_st (F' := T19.setTop (mkF m 23 #[.val (.int p1), .val (.int p2), .val (.int p3), .unset, .unset, .unset] [(.ref b1), (.ref b1)])) (fun t_ kk => XS.dup X19.here hx rfl (hb hby at_22) rfl rfl kk) ?_
  refine own_st (F' := T19.setTop (mkF m 24 #[.val (.int p1), .val (.int p2), .val (.int p3), .unset, .unset, .unset] [(.int (4 : Int32)), (.ref b1), (.ref b1)])) (fun t_ kk => XS.iconst X19.here hx rfl (hb hby at_23) kk) ?_
  refine own_st (F' := T19.setTop (mkF m 26 #[.val (.int p1), .val (.int p2), .val (.int p3), .unset, .unset, .unset] [(.int (13 : Int32)), (.int (4 : Int32)), (.ref b1), (.ref b1)])) (fun t_ kk => XS.bipush X19.here hx rfl (hb hby at_24) kk) ?_
  obtain ⟨T24, h24, X24, e24, W24, A24, st24⟩ := own_ist X19 hx hZ e19 A19 (pc := 26) (Ls := #[.val (.int p1), .val (.int p2), .val (.int p3), .unset, .unset, .unset]) (rest := [(.ref b1)]) (j := (4 : Int32)) (x := (13 : Int32)) 4 rfl (by decide) (by decide) (Nat.le_of_ble_eq_true rfl) (hb hby at_26)
  have K26 := Keep.wr K21 W24 (Or.inr sz_b1)
  have Z27 := Nat.le_trans Z22 (Keep.of_wr W24).1
  have N28 := Fr.snoc X24 N23 g_b1
  refine own_st (F' := T24.setTop (mkF m 27 #[.val (.int p1), .val (.int p2), .val (.int p3), .unset, .unset, .unset] [(.ref b1)])) st24 ?_
  refine own_st (F' := T24.setTop (mkF m 28 #[.val (.int p1), .val (.int p2), .val (.int p3), .unset, .unset, .unset] [(.ref b1), (.ref b1)])) (fun t_ kk => XS.dup X24.here hx rfl (hb hby at_27) rfl rfl kk) ?_
  refine own_st (F' := T24.setTop (mkF m 29 #[.val (.int p1), .val (.int p2), .val (.int p3), .unset, .unset, .unset] [(.int (5 : Int32)), (.ref b1), (.ref b1)])) (fun t_ kk => XS.iconst X24.here hx rfl (hb hby at_28) kk) ?_
  refine own_st (F' := T24.setTop (mkF m 31 #[.val (.int p1), .val (.int p2), .val (.int p3), .unset, .unset, .unset] [(.int (31 : Int32)), (.int (5 : Int32)), (.ref b1), (.ref b1)])) (fun t_ kk => XS.bipush X24.here hx rfl (hb hby at_29) kk) ?_
  obtain ⟨T29, h29, X29, e29, W29, A29, st29⟩ := own_ist X24 hx hZ e24 A24 (pc := 31) (Ls := #[.val (.int p1), .val (.int p2), .val (.int p3), .unset, .unset, .unset]) (rest := [(.ref b1)]) (j := (5 : Int32)) (x := (31 : Int32)) 5 rfl (by decide) (by decide) (Nat.le_of_ble_eq_true rfl) (hb hby at_31)
  have K31 := Keep.wr K26 W29 (Or.inr sz_b1)
  have Z32 := Nat.le_trans Z27 (Keep.of_wr W29).1
  have N33 := Fr.snoc X29 N28 g_b1
  refine own_st (F' := T29.setTop (mkF m 32 #[.val (.int p1), .val (.int p2), .val (.int p3), .unset, .unset, .unset] [(.ref b1)])) st29 ?_
  refine own_st (F' := T29.setTop (mkF m 33 #[.val (.int p1), .val (.int p2), .val (.int p3), .unset, .unset, .unset] [(.ref b1), (.ref b1)])) (fun t_ kk => XS.dup X29.here hx rfl (hb hby at_32) rfl rfl kk) ?_
  refine own_st (F' := T29.setTop (mkF m 35 #[.val (.int p1), .val (.int p2), .val (.int p3), .unset, .unset, .unset] [(.int (6 : Int32)), (.ref b1), (.ref b1)])) (fun t_ kk => XS.bipush X29.here hx rfl (hb hby at_33) kk) ?_
  refine own_st (F' := T29.setTop (mkF m 37 #[.val (.int p1), .val (.int p2), .val (.int p3), .unset, .unset, .unset] [(.int (32 : Int32)), (.int (6 : Int32)), (.ref b1), (.ref b1)])) (fun t_ kk => XS.bipush X29.here hx rfl (hb hby at_35) kk) ?_
  obtain ⟨T34, h34, X34, e34, W34, A34, st34⟩ := own_ist X29 hx hZ e29 A29 (pc := 37) (Ls := #[.val (.int p1), .val (.int p2), .val (.int p3), .unset, .unset, .unset]) (rest := [(.ref b1)]) (j := (6 : Int32)) (x := (32 : Int32)) 6 rfl (by decide) (by decide) (Nat.le_of_ble_eq_true rfl) (hb hby at_37)
  have K36 := Keep.wr K31 W34 (Or.inr sz_b1)
  have Z37 := Nat.le_trans Z32 (Keep.of_wr W34).1
  have N38 := Fr.snoc X34 N33 g_b1
  refine own_st (F' := T34.setTop (mkF m 38 #[.val (.int p1), .val (.int p2), .val (.int p3), .unset, .unset, .unset] [(.ref b1)])) st34 ?_
  refine own_st (F' := T34.setTop (mkF m 39 #[.val (.int p1), .val (.int p2), .val (.int p3), .unset, .unset, .unset] [(.ref b1), (.ref b1)])) (fun t_ kk => XS.dup X34.here hx rfl (hb hby at_38) rfl rfl kk) ?_
  refine own_st (F' := T34.setTop (mkF m 41 #[.val (.int p1), .val (.int p2), .val (.int p3), .unset, .unset, .unset] [(.int (7 : Int32)), (.ref b1), (.ref b1)])) (fun t_ kk => XS.bipush X34.here hx rfl (hb hby at_39) kk) ?_
  refine own_st (F' := T34.setTop (mkF m 43 #[.val (.int p1), .val (.int p2), .val (.int p3), .unset, .unset, .unset] [(.int (55295 : Int32)), (.int (7 : Int32)), (.ref b1), (.ref b1)])) (X34.ldcInt hx hown (mvT hZ (hw _ (List.mem_of_getElem? (i := 1) rfl))) (g := (mkF m 41 #[.val (.int p1), .val (.int p2), .val (.int p3), .unset, .unset, .unset] [(.int (7 : Int32)), (.ref b1), (.ref b1)])) rfl (hb hby at_41)) ?_
  obtain ⟨T39, h39, X39, e39, W39, A39, st39⟩ := own_ist X34 hx hZ e34 A34 (pc := 43) (Ls := #[.val (.int p1), .val (.int p2), .val (.int p3), .unset, .unset, .unset]) (rest := [(.ref b1)]) (j := (7 : Int32)) (x := (55295 : Int32)) 7 rfl (by decide) (by decide) (Nat.le_of_ble_eq_true rfl) (hb hby at_43)
  have K41 := Keep.wr K36 W39 (Or.inr sz_b1)
  have Z42 := Nat.le_trans Z37 (Keep.of_wr W39).1
  have N43 := Fr.snoc X39 N38 g_b1
  refine own_st (F' := T39.setTop (mkF m 44 #[.val (.int p1), .val (.int p2), .val (.int p3), .unset, .unset, .unset] [(.ref b1)])) st39 ?_
  refine own_st (F' := T39.setTop (mkF m 45 #[.val (.int p1), .val (.int p2), .val (.int p3), .unset, .unset, .unset] [(.ref b1), (.ref b1)])) (fun t_ kk => XS.dup X39.here hx rfl (hb hby at_44) rfl rfl kk) ?_
  refine own_st (F' := T39.setTop (mkF m 47 #[.val (.int p1), .val (.int p2), .val (.int p3), .unset, .unset, .unset] [(.int (8 : Int32)), (.ref b1), (.ref b1)])) (fun t_ kk => XS.bipush X39.here hx rfl (hb hby at_45) kk) ?_
  refine own_st (F' := T39.setTop (mkF m 49 #[.val (.int p1), .val (.int p2), .val (.int p3), .unset, .unset, .unset] [(.int (57344 : Int32)), (.int (8 : Int32)), (.ref b1), (.ref b1)])) (X39.ldcInt hx hown (mvT hZ (hw _ (List.mem_of_getElem? (i := 2) rfl))) (g := (mkF m 47 #[.val (.int p1), .val (.int p2), .val (.int p3), .unset, .unset, .unset] [(.int (8 : Int32)), (.ref b1), (.ref b1)])) rfl (hb hby at_47)) ?_
  obtain ⟨T44, h44, X44, e44, W44, A44, st44⟩ := own_ist X39 hx hZ e39 A39 (pc := 49) (Ls := #[.val (.int p1), .val (.int p2), .val (.int p3), .unset, .unset, .unset]) (rest := [(.ref b1)]) (j := (8 : Int32)) (x := (57344 : Int32)) 8 rfl (by decide) (by decide) (Nat.le_of_ble_eq_true rfl) (hb hby at_49)
  have K46 := Keep.wr K41 W44 (Or.inr sz_b1)
  have Z47 := Nat.le_trans Z42 (Keep.of_wr W44).1
  have N48 := Fr.snoc X44 N43 g_b1
  refine own_st (F' := T44.setTop (mkF m 50 #[.val (.int p1), .val (.int p2), .val (.int p3), .unset, .unset, .unset] [(.ref b1)])) st44 ?_
  refine own_st (F' := T44.setTop (mkF m 51 #[.val (.int p1), .val (.int p2), .val (.int p3), .unset, .unset, .unset] [(.ref b1), (.ref b1)])) (fun t_ kk => XS.dup X44.here hx rfl (hb hby at_50) rfl rfl kk) ?_
  refine own_st (F' := T44.setTop (mkF m 53 #[.val (.int p1), .val (.int p2), .val (.int p3), .unset, .unset, .unset] [(.int (9 : Int32)), (.ref b1), (.ref b1)])) (fun t_ kk => XS.bipush X44.here hx rfl (hb hby at_51) kk) ?_
  refine own_st (F' := T44.setTop (mkF m 55 #[.val (.int p1), .val (.int p2), .val (.int p3), .unset, .unset, .unset] [(.int (65533 : Int32)), (.int (9 : Int32)), (.ref b1), (.ref b1)])) (X44.ldcInt hx hown (mvT hZ (hw _ (List.mem_of_getElem? (i := 3) rfl))) (g := (mkF m 53 #[.val (.int p1), .val (.int p2), .val (.int p3), .unset, .unset, .unset] [(.int (9 : Int32)), (.ref b1), (.ref b1)])) rfl (hb hby at_53)) ?_
  obtain ⟨T49, h49, X49, e49, W49, A49, st49⟩ := own_ist X44 hx hZ e44 A44 (pc := 55) (Ls := #[.val (.int p1), .val (.int p2), .val (.int p3), .unset, .unset, .unset]) (rest := [(.ref b1)]) (j := (9 : Int32)) (x := (65533 : Int32)) 9 rfl (by decide) (by decide) (Nat.le_of_ble_eq_true rfl) (hb hby at_55)
  have K51 := Keep.wr K46 W49 (Or.inr sz_b1)
  have Z52 := Nat.le_trans Z47 (Keep.of_wr W49).1
  have N53 := Fr.snoc X49 N48 g_b1
  refine own_st (F' := T49.setTop (mkF m 56 #[.val (.int p1), .val (.int p2), .val (.int p3), .unset, .unset, .unset] [(.ref b1)])) st49 ?_
  refine own_st (F' := T49.setTop (mkF m 57 #[.val (.int p1), .val (.int p2), .val (.int p3), .unset, .unset, .unset] [(.ref b1), (.ref b1)])) (fun t_ kk => XS.dup X49.here hx rfl (hb hby at_56) rfl rfl kk) ?_
  refine own_st (F' := T49.setTop (mkF m 59 #[.val (.int p1), .val (.int p2), .val (.int p3), .unset, .unset, .unset] [(.int (10 : Int32)), (.ref b1), (.ref b1)])) (fun t_ kk => XS.bipush X49.here hx rfl (hb hby at_57) kk) ?_
  refine own_st (F' := T49.setTop (mkF m 61 #[.val (.int p1), .val (.int p2), .val (.int p3), .unset, .unset, .unset] [(.int (65536 : Int32)), (.int (10 : Int32)), (.ref b1), (.ref b1)])) (X49.ldcInt hx hown (mvT hZ (hw _ (List.mem_of_getElem? (i := 4) rfl))) (g := (mkF m 59 #[.val (.int p1), .val (.int p2), .val (.int p3), .unset, .unset, .unset] [(.int (10 : Int32)), (.ref b1), (.ref b1)])) rfl (hb hby at_59)) ?_
  obtain ⟨T54, h54, X54, e54, W54, A54, st54⟩ := own_ist X49 hx hZ e49 A49 (pc := 61) (Ls := #[.val (.int p1), .val (.int p2), .val (.int p3), .unset, .unset, .unset]) (rest := [(.ref b1)]) (j := (10 : Int32)) (x := (65536 : Int32)) 10 rfl (by decide) (by decide) (Nat.le_of_ble_eq_true rfl) (hb hby at_61)
  have K56 := Keep.wr K51 W54 (Or.inr sz_b1)
  have Z57 := Nat.le_trans Z52 (Keep.of_wr W54).1
  have N58 := Fr.snoc X54 N53 g_b1
  refine own_st (F' := T54.setTop (mkF m 62 #[.val (.int p1), .val (.int p2), .val (.int p3), .unset, .unset, .unset] [(.ref b1)])) st54 ?_
  refine own_st (F' := T54.setTop (mkF m 63 #[.val (.int p1), .val (.int p2), .val (.int p3), .unset, .unset, .unset] [(.ref b1), (.ref b1)])) (fun t_ kk => XS.dup X54.here hx rfl (hb hby at_62) rfl rfl kk) ?_
  refine own_st (F' := T54.setTop (mkF m 65 #[.val (.int p1), .val (.int p2), .val (.int p3), .unset, .unset, .unset] [(.int (11 : Int32)), (.ref b1), (.ref b1)])) (fun t_ kk => XS.bipush X54.here hx rfl (hb hby at_63) kk) ?_
  refine own_st (F' := T54.setTop (mkF m 67 #[.val (.int p1), .val (.int p2), .val (.int p3), .unset, .unset, .unset] [(.int (1114111 : Int32)), (.int (11 : Int32)), (.ref b1), (.ref b1)])) (X54.ldcInt hx hown (mvT hZ (hw _ (List.mem_of_getElem? (i := 5) rfl))) (g := (mkF m 65 #[.val (.int p1), .val (.int p2), .val (.int p3), .unset, .unset, .unset] [(.int (11 : Int32)), (.ref b1), (.ref b1)])) rfl (hb hby at_65)) ?_
  obtain ⟨T59, h59, X59, e59, W59, A59, st59⟩ := own_ist X54 hx hZ e54 A54 (pc := 67) (Ls := #[.val (.int p1), .val (.int p2), .val (.int p3), .unset, .unset, .unset]) (rest := [(.ref b1)]) (j := (11 : Int32)) (x := (1114111 : Int32)) 11 rfl (by decide) (by decide) (Nat.le_of_ble_eq_true rfl) (hb hby at_67)
  have K61 := Keep.wr K56 W59 (Or.inr sz_b1)
  have Z62 := Nat.le_trans Z57 (Keep.of_wr W59).1
  have N63 := Fr.snoc X59 N58 g_b1
  refine own_st (F' := T59.setTop (mkF m 68 #[.val (.int p1), .val (.int p2), .val (.int p3), .unset, .unset, .unset] [(.ref b1)])) st59 ?_
  refine own_st (F' := T59.setTop (mkF m 69 #[.val (.int p1), .val (.int p2), .val (.int p3), .unset, .unset, .unset] [(.ref b1), (.ref b1)])) (fun t_ kk => XS.dup X59.here hx rfl (hb hby at_68) rfl rfl kk) ?_
  refine own_st (F' := T59.setTop (mkF m 71 #[.val (.int p1), .val (.int p2), .val (.int p3), .unset, .unset, .unset] [(.int (12 : Int32)), (.ref b1), (.ref b1)])) (fun t_ kk => XS.bipush X59.here hx rfl (hb hby at_69) kk) ?_
  refine own_st (F' := T59.setTop (mkF m 73 #[.val (.int p1), .val (.int p2), .val (.int p3), .unset, .unset, .unset] [(.int (-2147483648 : Int32)), (.int (12 : Int32)), (.ref b1), (.ref b1)])) (X59.ldcInt hx hown (mvT hZ (hw _ (List.mem_of_getElem? (i := 6) rfl))) (g := (mkF m 71 #[.val (.int p1), .val (.int p2), .val (.int p3), .unset, .unset, .unset] [(.int (12 : Int32)), (.ref b1), (.ref b1)])) rfl (hb hby at_71)) ?_
  obtain ⟨T64, h64, X64, e64, W64, A64, st64⟩ := own_ist X59 hx hZ e59 A59 (pc := 73) (Ls := #[.val (.int p1), .val (.int p2), .val (.int p3), .unset, .unset, .unset]) (rest := [(.ref b1)]) (j := (12 : Int32)) (x := (-2147483648 : Int32)) 12 rfl (by decide) (by decide) (Nat.le_of_ble_eq_true rfl) (hb hby at_73)
  have K66 := Keep.wr K61 W64 (Or.inr sz_b1)
  have Z67 := Nat.le_trans Z62 (Keep.of_wr W64).1
  have N68 := Fr.snoc X64 N63 g_b1
  refine own_st (F' := T64.setTop (mkF m 74 #[.val (.int p1), .val (.int p2), .val (.int p3), .unset, .unset, .unset] [(.ref b1)])) st64 ?_
  refine own_st (F' := T64.setTop (mkF m 75 #[.val (.int p1), .val (.int p2), .val (.int p3), .unset, .unset, .unset] [(.ref b1), (.ref b1)])) (fun t_ kk => XS.dup X64.here hx rfl (hb hby at_74) rfl rfl kk) ?_
  refine own_st (F' := T64.setTop (mkF m 77 #[.val (.int p1), .val (.int p2), .val (.int p3), .unset, .unset, .unset] [(.int (13 : Int32)), (.ref b1), (.ref b1)])) (fun t_ kk => XS.bipush X64.here hx rfl (hb hby at_75) kk) ?_
  refine own_st (F' := T64.setTop (mkF m 79 #[.val (.int p1), .val (.int p2), .val (.int p3), .unset, .unset, .unset] [(.int (2147483647 : Int32)), (.int (13 : Int32)), (.ref b1), (.ref b1)])) (X64.ldcInt hx hown (mvT hZ (hw _ (List.mem_of_getElem? (i := 7) rfl))) (g := (mkF m 77 #[.val (.int p1), .val (.int p2), .val (.int p3), .unset, .unset, .unset] [(.int (13 : Int32)), (.ref b1), (.ref b1)])) rfl (hb hby at_77)) ?_
  obtain ⟨T69, h69, X69, e69, W69, A69, st69⟩ := own_ist X64 hx hZ e64 A64 (pc := 79) (Ls := #[.val (.int p1), .val (.int p2), .val (.int p3), .unset, .unset, .unset]) (rest := [(.ref b1)]) (j := (13 : Int32)) (x := (2147483647 : Int32)) 13 rfl (by decide) (by decide) (Nat.le_of_ble_eq_true rfl) (hb hby at_79)
  have K71 := Keep.wr K66 W69 (Or.inr sz_b1)
  have Z72 := Nat.le_trans Z67 (Keep.of_wr W69).1
  have N73 := Fr.snoc X69 N68 g_b1
  refine own_st (F' := T69.setTop (mkF m 80 #[.val (.int p1), .val (.int p2), .val (.int p3), .unset, .unset, .unset] [(.ref b1)])) st69 ?_
  refine own_st (F' := T69.setTop (mkF m 81 #[.val (.int p1), .val (.int p2), .val (.int p3), .val (.ref b1), .unset, .unset] [])) (fun t_ kk => XS.astoreN X69.here hx rfl (hb hby at_80) rfl rfl (l' := #[.val (.int p1), .val (.int p2), .val (.int p3), .val (.ref b1), .unset, .unset]) rfl kk) ?_
  refine own_st (F' := T69.setTop (mkF m 82 #[.val (.int p1), .val (.int p2), .val (.int p3), .val (.ref b1), .unset, .unset] [(.int p2)])) (fun t_ kk => XS.iloadN X69.here hx rfl (hb hby at_81) rfl kk) ?_
  refine own_st (F' := T69.setTop (mkF m 83 #[.val (.int p1), .val (.int p2), .val (.int p3), .val (.ref b1), .unset, .unset] [(.int (1 : Int32)), (.int p2)])) (fun t_ kk => XS.iconst X69.here hx rfl (hb hby at_82) kk) ?_
  refine own_st (F' := T69.setTop (mkF m 84 #[.val (.int p1), .val (.int p2), .val (.int p3), .val (.ref b1), .unset, .unset] [(.int (p2 &&& (1 : Int32)))])) (fun t_ kk => XS.iand X69.here hx rfl (hb hby at_83) rfl kk) ?_
  by_cases hc74 : (p2 &&& (1 : Int32)) = (0 : Int32)
  · -- pc 84: (p2 &&& (1 : Int32)) = (0 : Int32)
    refine own_st (F' := T69.setTop (mkF m 87 #[.val (.int p1), .val (.int p2), .val (.int p3), .val (.ref b1), .unset, .unset] [])) (fun t_ kk => XS.ifNo X69.here hx rfl (hb hby at_84) rfl ((if0 _ _).trans (teq hc74).2) kk) ?_
    refine own_st (F' := T69.setTop (mkF m 88 #[.val (.int p1), .val (.int p2), .val (.int p3), .val (.ref b1), .unset, .unset] [(.int p1)])) (fun t_ kk => XS.iloadN X69.here hx rfl (hb hby at_87) rfl kk) ?_
    refine own_st (F' := T69.setTop (mkF m 90 #[.val (.int p1), .val (.int p2), .val (.int p3), .val (.ref b1), .val (.int p1), .unset] [])) (fun t_ kk => XS.istore X69.here hx rfl (hb hby at_88) rfl (l' := #[.val (.int p1), .val (.int p2), .val (.int p3), .val (.ref b1), .val (.int p1), .unset]) rfl kk) ?_
    refine own_st (F' := T69.setTop (mkF m 109 #[.val (.int p1), .val (.int p2), .val (.int p3), .val (.ref b1), .val (.int p1), .unset] [])) (fun t_ kk => XS.goto X69.here hx rfl (pc0 := 90) (pc' := 109) rfl (hb hby at_90) (by decide) (by decide) kk) ?_
    refine own_st (F' := T69.setTop (mkF m 110 #[.val (.int p1), .val (.int p2), .val (.int p3), .val (.ref b1), .val (.int p1), .unset] [(.int p3)])) (fun t_ kk => XS.iloadN X69.here hx rfl (hb hby at_109) rfl kk) ?_
    refine own_st (F' := T69.setTop (mkF m 111 #[.val (.int p1), .val (.int p2), .val (.int p3), .val (.ref b1), .val (.int p1), .unset] [(.int (1 : Int32)), (.int p3)])) (fun t_ kk => XS.iconst X69.here hx rfl (hb hby at_110) kk) ?_
    refine own_st (F' := T69.setTop (mkF m 112 #[.val (.int p1), .val (.int p2), .val (.int p3), .val (.ref b1), .val (.int p1), .unset] [(.int (p3 &&& (1 : Int32)))])) (fun t_ kk => XS.iand X69.here hx rfl (hb hby at_111) rfl kk) ?_
    by_cases hc75 : (p3 &&& (1 : Int32)) = (0 : Int32)
    · -- pc 112: (p3 &&& (1 : Int32)) = (0 : Int32)
      refine own_st (F' := T69.setTop (mkF m 119 #[.val (.int p1), .val (.int p2), .val (.int p3), .val (.ref b1), .val (.int p1), .unset] [])) (fun t_ kk => XS.ifYes X69.here hx rfl (pc0 := 112) (pc' := 119) rfl (hb hby at_112) rfl ((if0 _ _).trans (teq hc75).1) (by decide) (by decide) kk) ?_
      refine own_st (F' := T69.setTop (mkF m 120 #[.val (.int p1), .val (.int p2), .val (.int p3), .val (.ref b1), .val (.int p1), .unset] [(.int (0 : Int32))])) (fun t_ kk => XS.iconst X69.here hx rfl (hb hby at_119) kk) ?_
      refine own_st (F' := T69.setTop (mkF m 122 #[.val (.int p1), .val (.int p2), .val (.int p3), .val (.ref b1), .val (.int p1), .val (.int (0 : Int32))] [])) (fun t_ kk => XS.istore X69.here hx rfl (hb hby at_120) rfl (l' := #[.val (.int p1), .val (.int p2), .val (.int p3), .val (.ref b1), .val (.int p1), .val (.int (0 : Int32))]) rfl kk) ?_
      refine own_st (F' := T69.setTop (mkF m 124 #[.val (.int p1), .val (.int p2), .val (.int p3), .val (.ref b1), .val (.int p1), .val (.int (0 : Int32))] [(.int p1)])) (fun t_ kk => XS.iload X69.here hx rfl (hb hby at_122) rfl kk) ?_
      refine own_st (F' := T69.setTop (mkF m 126 #[.val (.int p1), .val (.int p2), .val (.int p3), .val (.ref b1), .val (.int p1), .val (.int (0 : Int32))] [(.int (0 : Int32)), (.int p1)])) (fun t_ kk => XS.iload X69.here hx rfl (hb hby at_124) rfl kk) ?_
      refine own_callS X69 hx hZ (y := (⟨"com/example/ascribe/ascribe/XmlNames", "isChar", "(IZ)Z"⟩ : MethodName)) hown (hw _ (List.mem_of_getElem? (i := 8) rfl)) (hw _ (List.mem_of_getElem? (i := 9) rfl)) (hw _ (List.mem_of_getElem? (i := 10) rfl)) (hw _ (List.mem_of_getElem? (i := 11) rfl)) (rm1 l Z a0 hw [] p1 (0 : Int32) h69 n0 Z72) (by decide) (W := 0) (argsL := [(.int p1), (.int (0 : Int32))]) (rest := []) (by decide) (by decide) (by rw [hml]; rfl) (lenOf own_pd1 rfl) rfl rfl (Nat.le_of_eq rfl) (hb hby at_126) e69 (by decide) (by decide) ?_
      intro v76 T76 L76 hQ76 X76
      obtain ⟨rfl, N76q, e76⟩ := hQ76
      have N76 := Fr.app N73 N76q
      show OWp p e below s _ _ _ (T76.setTop (mkF m 129 #[.val (.int p1), .val (.int p2), .val (.int p3), .val (.ref b1), .val (.int p1), .val (.int (0 : Int32))] [(.int (oChar p1 (0 : Int32)))]))
      refine own_st (F' := T76.setTop (mkF m 131 #[.val (.int p1), .val (.int p2), .val (.int p3), .val (.ref b1), .val (.int p1), .val (.int (0 : Int32))] [(.int p1), (.int (oChar p1 (0 : Int32)))])) (fun t_ kk => XS.iload X76.here hx rfl (hb hby at_129) rfl kk) ?_
      refine own_st (F' := T76.setTop (mkF m 133 #[.val (.int p1), .val (.int p2), .val (.int p3), .val (.ref b1), .val (.int p1), .val (.int (0 : Int32))] [(.int (0 : Int32)), (.int p1), (.int (oChar p1 (0 : Int32)))])) (fun t_ kk => XS.iload X76.here hx rfl (hb hby at_131) rfl kk) ?_
      refine own_callS X76 hx hZ (y := (⟨"com/example/ascribe/ascribe/XmlNamesIsCharPinLaw", "expected", "(IZ)Z"⟩ : MethodName)) hown (hw _ (List.mem_of_getElem? (i := 12) rfl)) (hw _ (List.mem_of_getElem? (i := 13) rfl)) (hw _ (List.mem_of_getElem? (i := 14) rfl)) (hw _ (List.mem_of_getElem? (i := 15) rfl)) (rm2 l Z a0 hw [] p1 (0 : Int32) h69 n0 Z72) (by decide) (W := 1) (argsL := [(.int p1), (.int (0 : Int32))]) (rest := [(.int (oChar p1 (0 : Int32)))]) (by decide) (by decide) (by rw [hml]; rfl) (lenOf own_pd1 rfl) rfl rfl (Nat.le_of_eq rfl) (hb hby at_133) e76 (by decide) (by decide) ?_
      intro v77 T77 L77 hQ77 X77
      obtain ⟨rfl, N77q, e77⟩ := hQ77
      have N77 := Fr.app N76 N77q
      show OWp p e below s _ _ _ (T77.setTop (mkF m 136 #[.val (.int p1), .val (.int p2), .val (.int p3), .val (.ref b1), .val (.int p1), .val (.int (0 : Int32))] [(.int (oChar p1 (0 : Int32))), (.int (oChar p1 (0 : Int32)))]))
      refine own_st (F' := T77.setTop (mkF m 139 #[.val (.int p1), .val (.int p2), .val (.int p3), .val (.ref b1), .val (.int p1), .val (.int (0 : Int32))] [])) (fun t_ kk => XS.icmpNo X77.here hx rfl (hb hby at_136) rfl (teq (rfl : (oChar p1 (0 : Int32)) = (oChar p1 (0 : Int32)))).2 kk) ?_
      refine own_st (F' := T77.setTop (mkF m 140 #[.val (.int p1), .val (.int p2), .val (.int p3), .val (.ref b1), .val (.int p1), .val (.int (0 : Int32))] [(.int (1 : Int32))])) (fun t_ kk => XS.iconst X77.here hx rfl (hb hby at_139) kk) ?_
      refine own_st (F' := T77.setTop (mkF m 144 #[.val (.int p1), .val (.int p2), .val (.int p3), .val (.ref b1), .val (.int p1), .val (.int (0 : Int32))] [(.int (1 : Int32))])) (fun t_ kk => XS.goto X77.here hx rfl (pc0 := 140) (pc' := 144) rfl (hb hby at_140) (by decide) (by decide) kk) ?_
      refine own_fin X77 (some (.int (1 : Int32))) (fun h => by rw [Bd.returns] at h; cases h) Bd.notSynchronized (by decide) (by decide) (fun fs hr => retN X77 hx (t := .boolean) Bd.returns (by simp) (hb hby at_144) hr) ?_
      rw [e77]
      exact ⟨rfl, N77⟩
    · -- pc 112: not (p3 &&& (1 : Int32)) = (0 : Int32)
      refine own_st (F' := T69.setTop (mkF m 115 #[.val (.int p1), .val (.int p2), .val (.int p3), .val (.ref b1), .val (.int p1), .unset] [])) (fun t_ kk => XS.ifNo X69.here hx rfl (hb hby at_112) rfl ((if0 _ _).trans (feq hc75).1) kk) ?_
      refine own_st (F' := T69.setTop (mkF m 116 #[.val (.int p1), .val (.int p2), .val (.int p3), .val (.ref b1), .val (.int p1), .unset] [(.int (1 : Int32))])) (fun t_ kk => XS.iconst X69.here hx rfl (hb hby at_115) kk) ?_
      refine own_st (F' := T69.setTop (mkF m 120 #[.val (.int p1), .val (.int p2), .val (.int p3), .val (.ref b1), .val (.int p1), .unset] [(.int (1 : Int32))])) (fun t_ kk => XS.goto X69.here hx rfl (pc0 := 116) (pc' := 120) rfl (hb hby at_116) (by decide) (by decide) kk) ?_
      refine own_st (F' := T69.setTop (mkF m 122 #[.val (.int p1), .val (.int p2), .val (.int p3), .val (.ref b1), .val (.int p1), .val (.int (1 : Int32))] [])) (fun t_ kk => XS.istore X69.here hx rfl (hb hby at_120) rfl (l' := #[.val (.int p1), .val (.int p2), .val (.int p3), .val (.ref b1), .val (.int p1), .val (.int (1 : Int32))]) rfl kk) ?_
      refine own_st (F' := T69.setTop (mkF m 124 #[.val (.int p1), .val (.int p2), .val (.int p3), .val (.ref b1), .val (.int p1), .val (.int (1 : Int32))] [(.int p1)])) (fun t_ kk => XS.iload X69.here hx rfl (hb hby at_122) rfl kk) ?_
      refine own_st (F' := T69.setTop (mkF m 126 #[.val (.int p1), .val (.int p2), .val (.int p3), .val (.ref b1), .val (.int p1), .val (.int (1 : Int32))] [(.int (1 : Int32)), (.int p1)])) (fun t_ kk => XS.iload X69.here hx rfl (hb hby at_124) rfl kk) ?_
      refine own_callS X69 hx hZ (y := (⟨"com/example/ascribe/ascribe/XmlNames", "isChar", "(IZ)Z"⟩ : MethodName)) hown (hw _ (List.mem_of_getElem? (i := 8) rfl)) (hw _ (List.mem_of_getElem? (i := 9) rfl)) (hw _ (List.mem_of_getElem? (i := 10) rfl)) (hw _ (List.mem_of_getElem? (i := 11) rfl)) (rm1 l Z a0 hw [] p1 (1 : Int32) h69 n0 Z72) (by decide) (W := 0) (argsL := [(.int p1), (.int (1 : Int32))]) (rest := []) (by decide) (by decide) (by rw [hml]; rfl) (lenOf own_pd1 rfl) rfl rfl (Nat.le_of_eq rfl) (hb hby at_126) e69 (by decide) (by decide) ?_
      intro v78 T78 L78 hQ78 X78
      obtain ⟨rfl, N78q, e78⟩ := hQ78
      have N78 := Fr.app N73 N78q
      show OWp p e below s _ _ _ (T78.setTop (mkF m 129 #[.val (.int p1), .val (.int p2), .val (.int p3), .val (.ref b1), .val (.int p1), .val (.int (1 : Int32))] [(.int (oChar p1 (1 : Int32)))]))
      refine own_st (F' := T78.setTop (mkF m 131 #[.val (.int p1), .val (.int p2), .val (.int p3), .val (.ref b1), .val (.int p1), .val (.int (1 : Int32))] [(.int p1), (.int (oChar p1 (1 : Int32)))])) (fun t_ kk => XS.iload X78.here hx rfl (hb hby at_129) rfl kk) ?_
      refine own_st (F' := T78.setTop (mkF m 133 #[.val (.int p1), .val (.int p2), .val (.int p3), .val (.ref b1), .val (.int p1), .val (.int (1 : Int32))] [(.int (1 : Int32)), (.int p1), (.int (oChar p1 (1 : Int32)))])) (fun t_ kk => XS.iload X78.here hx rfl (hb hby at_131) rfl kk) ?_
      refine own_callS X78 hx hZ (y := (⟨"com/example/ascribe/ascribe/XmlNamesIsCharPinLaw", "expected", "(IZ)Z"⟩ : MethodName)) hown (hw _ (List.mem_of_getElem? (i := 12) rfl)) (hw _ (List.mem_of_getElem? (i := 13) rfl)) (hw _ (List.mem_of_getElem? (i := 14) rfl)) (hw _ (List.mem_of_getElem? (i := 15) rfl)) (rm2 l Z a0 hw [] p1 (1 : Int32) h69 n0 Z72) (by decide) (W := 1) (argsL := [(.int p1), (.int (1 : Int32))]) (rest := [(.int (oChar p1 (1 : Int32)))]) (by decide) (by decide) (by rw [hml]; rfl) (lenOf own_pd1 rfl) rfl rfl (Nat.le_of_eq rfl) (hb hby at_133) e78 (by decide) (by decide) ?_
      intro v79 T79 L79 hQ79 X79
      obtain ⟨rfl, N79q, e79⟩ := hQ79
      have N79 := Fr.app N78 N79q
      show OWp p e below s _ _ _ (T79.setTop (mkF m 136 #[.val (.int p1), .val (.int p2), .val (.int p3), .val (.ref b1), .val (.int p1), .val (.int (1 : Int32))] [(.int (oChar p1 (1 : Int32))), (.int (oChar p1 (1 : Int32)))]))
      refine own_st (F' := T79.setTop (mkF m 139 #[.val (.int p1), .val (.int p2), .val (.int p3), .val (.ref b1), .val (.int p1), .val (.int (1 : Int32))] [])) (fun t_ kk => XS.icmpNo X79.here hx rfl (hb hby at_136) rfl (teq (rfl : (oChar p1 (1 : Int32)) = (oChar p1 (1 : Int32)))).2 kk) ?_
      refine own_st (F' := T79.setTop (mkF m 140 #[.val (.int p1), .val (.int p2), .val (.int p3), .val (.ref b1), .val (.int p1), .val (.int (1 : Int32))] [(.int (1 : Int32))])) (fun t_ kk => XS.iconst X79.here hx rfl (hb hby at_139) kk) ?_
      refine own_st (F' := T79.setTop (mkF m 144 #[.val (.int p1), .val (.int p2), .val (.int p3), .val (.ref b1), .val (.int p1), .val (.int (1 : Int32))] [(.int (1 : Int32))])) (fun t_ kk => XS.goto X79.here hx rfl (pc0 := 140) (pc' := 144) rfl (hb hby at_140) (by decide) (by decide) kk) ?_
      refine own_fin X79 (some (.int (1 : Int32))) (fun h => by rw [Bd.returns] at h; cases h) Bd.notSynchronized (by decide) (by decide) (fun fs hr => retN X79 hx (t := .boolean) Bd.returns (by simp) (hb hby at_144) hr) ?_
      rw [e79]
      exact ⟨rfl, N79⟩
  · -- pc 84: not (p2 &&& (1 : Int32)) = (0 : Int32)
    refine own_st (F' := T69.setTop (mkF m 93 #[.val (.int p1), .val (.int p2), .val (.int p3), .val (.ref b1), .unset, .unset] [])) (fun t_ kk => XS.ifYes X69.here hx rfl (pc0 := 84) (pc' := 93) rfl (hb hby at_84) rfl ((if0 _ _).trans (feq hc74).2) (by decide) (by decide) kk) ?_
    refine own_st (F' := T69.setTop (mkF m 94 #[.val (.int p1), .val (.int p2), .val (.int p3), .val (.ref b1), .unset, .unset] [(.ref b1)])) (fun t_ kk => XS.aloadN X69.here hx rfl (hb hby at_93) rfl rfl kk) ?_
    refine own_st (F' := T69.setTop (mkF m 95 #[.val (.int p1), .val (.int p2), .val (.int p3), .val (.ref b1), .unset, .unset] [(.int p2), (.ref b1)])) (fun t_ kk => XS.iloadN X69.here hx rfl (hb hby at_94) rfl kk) ?_
    refine own_st (F' := T69.setTop (mkF m 96 #[.val (.int p1), .val (.int p2), .val (.int p3), .val (.ref b1), .unset, .unset] [(.int (1 : Int32)), (.int p2), (.ref b1)])) (fun t_ kk => XS.iconst X69.here hx rfl (hb hby at_95) kk) ?_
    refine own_st (F' := T69.setTop (mkF m 97 #[.val (.int p1), .val (.int p2), .val (.int p3), .val (.ref b1), .unset, .unset] [(.int ((p2.toUInt32 >>> ((1 : Int32) &&& 31).toUInt32).toInt32)), (.ref b1)])) (fun t_ kk => XS.iushr X69.here hx rfl (hb hby at_96) rfl kk) ?_
    refine own_st (F' := T69.setTop (mkF m 98 #[.val (.int p1), .val (.int p2), .val (.int p3), .val (.ref b1), .unset, .unset] [(.ref b1), (.int ((p2.toUInt32 >>> ((1 : Int32) &&& 31).toUInt32).toInt32)), (.ref b1)])) (fun t_ kk => XS.aloadN X69.here hx rfl (hb hby at_97) rfl rfl kk) ?_
    refine own_st (F' := T69.setTop (mkF m 99 #[.val (.int p1), .val (.int p2), .val (.int p3), .val (.ref b1), .unset, .unset] [(.int (14 : Int32)), (.int ((p2.toUInt32 >>> ((1 : Int32) &&& 31).toUInt32).toInt32)), (.ref b1)])) (own_len X69 hx hZ e69 A69 (hb hby at_98)) ?_
    refine own_st (F' := T69.setTop (mkF m 100 #[.val (.int p1), .val (.int p2), .val (.int p3), .val (.ref b1), .unset, .unset] [(.int (((p2.toUInt32 >>> ((1 : Int32) &&& 31).toUInt32).toInt32) % (14 : Int32))), (.ref b1)])) (fun t_ kk => own_irem X69.here hx rfl (hb hby at_99) rfl (by decide) kk) ?_
    have hj := own_idx p2
    obtain ⟨w80, hvw80⟩ := own_elt A69 hj.1 hj.2
    refine own_st (F' := T69.setTop (mkF m 101 #[.val (.int p1), .val (.int p2), .val (.int p3), .val (.ref b1), .unset, .unset] [(.int w80)])) (own_ild X69 hx hZ e69 A69 (j := (((p2.toUInt32 >>> ((1 : Int32) &&& 31).toUInt32).toInt32) % (14 : Int32))) (w := w80) hj.1 hj.2 hvw80 (hb hby at_100)) ?_
    refine own_st (F' := T69.setTop (mkF m 102 #[.val (.int p1), .val (.int p2), .val (.int p3), .val (.ref b1), .unset, .unset] [(.int p1), (.int w80)])) (fun t_ kk => XS.iloadN X69.here hx rfl (hb hby at_101) rfl kk) ?_
    refine own_st (F' := T69.setTop (mkF m 103 #[.val (.int p1), .val (.int p2), .val (.int p3), .val (.ref b1), .unset, .unset] [(.int (3 : Int32)), (.int p1), (.int w80)])) (fun t_ kk => XS.iconst X69.here hx rfl (hb hby at_102) kk) ?_
    refine own_st (F' := T69.setTop (mkF m 104 #[.val (.int p1), .val (.int p2), .val (.int p3), .val (.ref b1), .unset, .unset] [(.int (p1 &&& (3 : Int32))), (.int w80)])) (fun t_ kk => XS.iand X69.here hx rfl (hb hby at_103) rfl kk) ?_
    refine own_st (F' := T69.setTop (mkF m 105 #[.val (.int p1), .val (.int p2), .val (.int p3), .val (.ref b1), .unset, .unset] [(.int (1 : Int32)), (.int (p1 &&& (3 : Int32))), (.int w80)])) (fun t_ kk => XS.iconst X69.here hx rfl (hb hby at_104) kk) ?_
    refine own_st (F' := T69.setTop (mkF m 106 #[.val (.int p1), .val (.int p2), .val (.int p3), .val (.ref b1), .unset, .unset] [(.int ((p1 &&& (3 : Int32)) - (1 : Int32))), (.int w80)])) (fun t_ kk => XS.isub X69.here hx rfl (hb hby at_105) rfl kk) ?_
    refine own_st (F' := T69.setTop (mkF m 107 #[.val (.int p1), .val (.int p2), .val (.int p3), .val (.ref b1), .unset, .unset] [(.int (w80 + ((p1 &&& (3 : Int32)) - (1 : Int32))))])) (fun t_ kk => XS.iadd X69.here hx rfl (hb hby at_106) rfl kk) ?_
    refine own_st (F' := T69.setTop (mkF m 109 #[.val (.int p1), .val (.int p2), .val (.int p3), .val (.ref b1), .val (.int (w80 + ((p1 &&& (3 : Int32)) - (1 : Int32)))), .unset] [])) (fun t_ kk => XS.istore X69.here hx rfl (hb hby at_107) rfl (l' := #[.val (.int p1), .val (.int p2), .val (.int p3), .val (.ref b1), .val (.int (w80 + ((p1 &&& (3 : Int32)) - (1 : Int32)))), .unset]) rfl kk) ?_
    refine own_st (F' := T69.setTop (mkF m 110 #[.val (.int p1), .val (.int p2), .val (.int p3), .val (.ref b1), .val (.int (w80 + ((p1 &&& (3 : Int32)) - (1 : Int32)))), .unset] [(.int p3)])) (fun t_ kk => XS.iloadN X69.here hx rfl (hb hby at_109) rfl kk) ?_
    refine own_st (F' := T69.setTop (mkF m 111 #[.val (.int p1), .val (.int p2), .val (.int p3), .val (.ref b1), .val (.int (w80 + ((p1 &&& (3 : Int32)) - (1 : Int32)))), .unset] [(.int (1 : Int32)), (.int p3)])) (fun t_ kk => XS.iconst X69.here hx rfl (hb hby at_110) kk) ?_
    refine own_st (F' := T69.setTop (mkF m 112 #[.val (.int p1), .val (.int p2), .val (.int p3), .val (.ref b1), .val (.int (w80 + ((p1 &&& (3 : Int32)) - (1 : Int32)))), .unset] [(.int (p3 &&& (1 : Int32)))])) (fun t_ kk => XS.iand X69.here hx rfl (hb hby at_111) rfl kk) ?_
    by_cases hc81 : (p3 &&& (1 : Int32)) = (0 : Int32)
    · -- pc 112: (p3 &&& (1 : Int32)) = (0 : Int32)
      refine own_st (F' := T69.setTop (mkF m 119 #[.val (.int p1), .val (.int p2), .val (.int p3), .val (.ref b1), .val (.int (w80 + ((p1 &&& (3 : Int32)) - (1 : Int32)))), .unset] [])) (fun t_ kk => XS.ifYes X69.here hx rfl (pc0 := 112) (pc' := 119) rfl (hb hby at_112) rfl ((if0 _ _).trans (teq hc81).1) (by decide) (by decide) kk) ?_
      refine own_st (F' := T69.setTop (mkF m 120 #[.val (.int p1), .val (.int p2), .val (.int p3), .val (.ref b1), .val (.int (w80 + ((p1 &&& (3 : Int32)) - (1 : Int32)))), .unset] [(.int (0 : Int32))])) (fun t_ kk => XS.iconst X69.here hx rfl (hb hby at_119) kk) ?_
      refine own_st (F' := T69.setTop (mkF m 122 #[.val (.int p1), .val (.int p2), .val (.int p3), .val (.ref b1), .val (.int (w80 + ((p1 &&& (3 : Int32)) - (1 : Int32)))), .val (.int (0 : Int32))] [])) (fun t_ kk => XS.istore X69.here hx rfl (hb hby at_120) rfl (l' := #[.val (.int p1), .val (.int p2), .val (.int p3), .val (.ref b1), .val (.int (w80 + ((p1 &&& (3 : Int32)) - (1 : Int32)))), .val (.int (0 : Int32))]) rfl kk) ?_
      refine own_st (F' := T69.setTop (mkF m 124 #[.val (.int p1), .val (.int p2), .val (.int p3), .val (.ref b1), .val (.int (w80 + ((p1 &&& (3 : Int32)) - (1 : Int32)))), .val (.int (0 : Int32))] [(.int (w80 + ((p1 &&& (3 : Int32)) - (1 : Int32))))])) (fun t_ kk => XS.iload X69.here hx rfl (hb hby at_122) rfl kk) ?_
      refine own_st (F' := T69.setTop (mkF m 126 #[.val (.int p1), .val (.int p2), .val (.int p3), .val (.ref b1), .val (.int (w80 + ((p1 &&& (3 : Int32)) - (1 : Int32)))), .val (.int (0 : Int32))] [(.int (0 : Int32)), (.int (w80 + ((p1 &&& (3 : Int32)) - (1 : Int32))))])) (fun t_ kk => XS.iload X69.here hx rfl (hb hby at_124) rfl kk) ?_
      refine own_callS X69 hx hZ (y := (⟨"com/example/ascribe/ascribe/XmlNames", "isChar", "(IZ)Z"⟩ : MethodName)) hown (hw _ (List.mem_of_getElem? (i := 8) rfl)) (hw _ (List.mem_of_getElem? (i := 9) rfl)) (hw _ (List.mem_of_getElem? (i := 10) rfl)) (hw _ (List.mem_of_getElem? (i := 11) rfl)) (rm1 l Z a0 hw [] (w80 + ((p1 &&& (3 : Int32)) - (1 : Int32))) (0 : Int32) h69 n0 Z72) (by decide) (W := 0) (argsL := [(.int (w80 + ((p1 &&& (3 : Int32)) - (1 : Int32)))), (.int (0 : Int32))]) (rest := []) (by decide) (by decide) (by rw [hml]; rfl) (lenOf own_pd1 rfl) rfl rfl (Nat.le_of_eq rfl) (hb hby at_126) e69 (by decide) (by decide) ?_
      intro v82 T82 L82 hQ82 X82
      obtain ⟨rfl, N82q, e82⟩ := hQ82
      have N82 := Fr.app N73 N82q
      show OWp p e below s _ _ _ (T82.setTop (mkF m 129 #[.val (.int p1), .val (.int p2), .val (.int p3), .val (.ref b1), .val (.int (w80 + ((p1 &&& (3 : Int32)) - (1 : Int32)))), .val (.int (0 : Int32))] [(.int (oChar (w80 + ((p1 &&& (3 : Int32)) - (1 : Int32))) (0 : Int32)))]))
      refine own_st (F' := T82.setTop (mkF m 131 #[.val (.int p1), .val (.int p2), .val (.int p3), .val (.ref b1), .val (.int (w80 + ((p1 &&& (3 : Int32)) - (1 : Int32)))), .val (.int (0 : Int32))] [(.int (w80 + ((p1 &&& (3 : Int32)) - (1 : Int32)))), (.int (oChar (w80 + ((p1 &&& (3 : Int32)) - (1 : Int32))) (0 : Int32)))])) (fun t_ kk => XS.iload X82.here hx rfl (hb hby at_129) rfl kk) ?_
      refine own_st (F' := T82.setTop (mkF m 133 #[.val (.int p1), .val (.int p2), .val (.int p3), .val (.ref b1), .val (.int (w80 + ((p1 &&& (3 : Int32)) - (1 : Int32)))), .val (.int (0 : Int32))] [(.int (0 : Int32)), (.int (w80 + ((p1 &&& (3 : Int32)) - (1 : Int32)))), (.int (oChar (w80 + ((p1 &&& (3 : Int32)) - (1 : Int32))) (0 : Int32)))])) (fun t_ kk => XS.iload X82.here hx rfl (hb hby at_131) rfl kk) ?_
      refine own_callS X82 hx hZ (y := (⟨"com/example/ascribe/ascribe/XmlNamesIsCharPinLaw", "expected", "(IZ)Z"⟩ : MethodName)) hown (hw _ (List.mem_of_getElem? (i := 12) rfl)) (hw _ (List.mem_of_getElem? (i := 13) rfl)) (hw _ (List.mem_of_getElem? (i := 14) rfl)) (hw _ (List.mem_of_getElem? (i := 15) rfl)) (rm2 l Z a0 hw [] (w80 + ((p1 &&& (3 : Int32)) - (1 : Int32))) (0 : Int32) h69 n0 Z72) (by decide) (W := 1) (argsL := [(.int (w80 + ((p1 &&& (3 : Int32)) - (1 : Int32)))), (.int (0 : Int32))]) (rest := [(.int (oChar (w80 + ((p1 &&& (3 : Int32)) - (1 : Int32))) (0 : Int32)))]) (by decide) (by decide) (by rw [hml]; rfl) (lenOf own_pd1 rfl) rfl rfl (Nat.le_of_eq rfl) (hb hby at_133) e82 (by decide) (by decide) ?_
      intro v83 T83 L83 hQ83 X83
      obtain ⟨rfl, N83q, e83⟩ := hQ83
      have N83 := Fr.app N82 N83q
      show OWp p e below s _ _ _ (T83.setTop (mkF m 136 #[.val (.int p1), .val (.int p2), .val (.int p3), .val (.ref b1), .val (.int (w80 + ((p1 &&& (3 : Int32)) - (1 : Int32)))), .val (.int (0 : Int32))] [(.int (oChar (w80 + ((p1 &&& (3 : Int32)) - (1 : Int32))) (0 : Int32))), (.int (oChar (w80 + ((p1 &&& (3 : Int32)) - (1 : Int32))) (0 : Int32)))]))
      refine own_st (F' := T83.setTop (mkF m 139 #[.val (.int p1), .val (.int p2), .val (.int p3), .val (.ref b1), .val (.int (w80 + ((p1 &&& (3 : Int32)) - (1 : Int32)))), .val (.int (0 : Int32))] [])) (fun t_ kk => XS.icmpNo X83.here hx rfl (hb hby at_136) rfl (teq (rfl : (oChar (w80 + ((p1 &&& (3 : Int32)) - (1 : Int32))) (0 : Int32)) = (oChar (w80 + ((p1 &&& (3 : Int32)) - (1 : Int32))) (0 : Int32)))).2 kk) ?_
      refine own_st (F' := T83.setTop (mkF m 140 #[.val (.int p1), .val (.int p2), .val (.int p3), .val (.ref b1), .val (.int (w80 + ((p1 &&& (3 : Int32)) - (1 : Int32)))), .val (.int (0 : Int32))] [(.int (1 : Int32))])) (fun t_ kk => XS.iconst X83.here hx rfl (hb hby at_139) kk) ?_
      refine own_st (F' := T83.setTop (mkF m 144 #[.val (.int p1), .val (.int p2), .val (.int p3), .val (.ref b1), .val (.int (w80 + ((p1 &&& (3 : Int32)) - (1 : Int32)))), .val (.int (0 : Int32))] [(.int (1 : Int32))])) (fun t_ kk => XS.goto X83.here hx rfl (pc0 := 140) (pc' := 144) rfl (hb hby at_140) (by decide) (by decide) kk) ?_
      refine own_fin X83 (some (.int (1 : Int32))) (fun h => by rw [Bd.returns] at h; cases h) Bd.notSynchronized (by decide) (by decide) (fun fs hr => retN X83 hx (t := .boolean) Bd.returns (by simp) (hb hby at_144) hr) ?_
      rw [e83]
      exact ⟨rfl, N83⟩
    · -- pc 112: not (p3 &&& (1 : Int32)) = (0 : Int32)
      refine own_st (F' := T69.setTop (mkF m 115 #[.val (.int p1), .val (.int p2), .val (.int p3), .val (.ref b1), .val (.int (w80 + ((p1 &&& (3 : Int32)) - (1 : Int32)))), .unset] [])) (fun t_ kk => XS.ifNo X69.here hx rfl (hb hby at_112) rfl ((if0 _ _).trans (feq hc81).1) kk) ?_
      refine own_st (F' := T69.setTop (mkF m 116 #[.val (.int p1), .val (.int p2), .val (.int p3), .val (.ref b1), .val (.int (w80 + ((p1 &&& (3 : Int32)) - (1 : Int32)))), .unset] [(.int (1 : Int32))])) (fun t_ kk => XS.iconst X69.here hx rfl (hb hby at_115) kk) ?_
      refine own_st (F' := T69.setTop (mkF m 120 #[.val (.int p1), .val (.int p2), .val (.int p3), .val (.ref b1), .val (.int (w80 + ((p1 &&& (3 : Int32)) - (1 : Int32)))), .unset] [(.int (1 : Int32))])) (fun t_ kk => XS.goto X69.here hx rfl (pc0 := 116) (pc' := 120) rfl (hb hby at_116) (by decide) (by decide) kk) ?_
      refine own_st (F' := T69.setTop (mkF m 122 #[.val (.int p1), .val (.int p2), .val (.int p3), .val (.ref b1), .val (.int (w80 + ((p1 &&& (3 : Int32)) - (1 : Int32)))), .val (.int (1 : Int32))] [])) (fun t_ kk => XS.istore X69.here hx rfl (hb hby at_120) rfl (l' := #[.val (.int p1), .val (.int p2), .val (.int p3), .val (.ref b1), .val (.int (w80 + ((p1 &&& (3 : Int32)) - (1 : Int32)))), .val (.int (1 : Int32))]) rfl kk) ?_
      refine own_st (F' := T69.setTop (mkF m 124 #[.val (.int p1), .val (.int p2), .val (.int p3), .val (.ref b1), .val (.int (w80 + ((p1 &&& (3 : Int32)) - (1 : Int32)))), .val (.int (1 : Int32))] [(.int (w80 + ((p1 &&& (3 : Int32)) - (1 : Int32))))])) (fun t_ kk => XS.iload X69.here hx rfl (hb hby at_122) rfl kk) ?_
      refine own_st (F' := T69.setTop (mkF m 126 #[.val (.int p1), .val (.int p2), .val (.int p3), .val (.ref b1), .val (.int (w80 + ((p1 &&& (3 : Int32)) - (1 : Int32)))), .val (.int (1 : Int32))] [(.int (1 : Int32)), (.int (w80 + ((p1 &&& (3 : Int32)) - (1 : Int32))))])) (fun t_ kk => XS.iload X69.here hx rfl (hb hby at_124) rfl kk) ?_
      refine own_callS X69 hx hZ (y := (⟨"com/example/ascribe/ascribe/XmlNames", "isChar", "(IZ)Z"⟩ : MethodName)) hown (hw _ (List.mem_of_getElem? (i := 8) rfl)) (hw _ (List.mem_of_getElem? (i := 9) rfl)) (hw _ (List.mem_of_getElem? (i := 10) rfl)) (hw _ (List.mem_of_getElem? (i := 11) rfl)) (rm1 l Z a0 hw [] (w80 + ((p1 &&& (3 : Int32)) - (1 : Int32))) (1 : Int32) h69 n0 Z72) (by decide) (W := 0) (argsL := [(.int (w80 + ((p1 &&& (3 : Int32)) - (1 : Int32)))), (.int (1 : Int32))]) (rest := []) (by decide) (by decide) (by rw [hml]; rfl) (lenOf own_pd1 rfl) rfl rfl (Nat.le_of_eq rfl) (hb hby at_126) e69 (by decide) (by decide) ?_
      intro v84 T84 L84 hQ84 X84
      obtain ⟨rfl, N84q, e84⟩ := hQ84
      have N84 := Fr.app N73 N84q
      show OWp p e below s _ _ _ (T84.setTop (mkF m 129 #[.val (.int p1), .val (.int p2), .val (.int p3), .val (.ref b1), .val (.int (w80 + ((p1 &&& (3 : Int32)) - (1 : Int32)))), .val (.int (1 : Int32))] [(.int (oChar (w80 + ((p1 &&& (3 : Int32)) - (1 : Int32))) (1 : Int32)))]))
      refine own_st (F' := T84.setTop (mkF m 131 #[.val (.int p1), .val (.int p2), .val (.int p3), .val (.ref b1), .val (.int (w80 + ((p1 &&& (3 : Int32)) - (1 : Int32)))), .val (.int (1 : Int32))] [(.int (w80 + ((p1 &&& (3 : Int32)) - (1 : Int32)))), (.int (oChar (w80 + ((p1 &&& (3 : Int32)) - (1 : Int32))) (1 : Int32)))])) (fun t_ kk => XS.iload X84.here hx rfl (hb hby at_129) rfl kk) ?_
      refine own_st (F' := T84.setTop (mkF m 133 #[.val (.int p1), .val (.int p2), .val (.int p3), .val (.ref b1), .val (.int (w80 + ((p1 &&& (3 : Int32)) - (1 : Int32)))), .val (.int (1 : Int32))] [(.int (1 : Int32)), (.int (w80 + ((p1 &&& (3 : Int32)) - (1 : Int32)))), (.int (oChar (w80 + ((p1 &&& (3 : Int32)) - (1 : Int32))) (1 : Int32)))])) (fun t_ kk => XS.iload X84.here hx rfl (hb hby at_131) rfl kk) ?_
      refine own_callS X84 hx hZ (y := (⟨"com/example/ascribe/ascribe/XmlNamesIsCharPinLaw", "expected", "(IZ)Z"⟩ : MethodName)) hown (hw _ (List.mem_of_getElem? (i := 12) rfl)) (hw _ (List.mem_of_getElem? (i := 13) rfl)) (hw _ (List.mem_of_getElem? (i := 14) rfl)) (hw _ (List.mem_of_getElem? (i := 15) rfl)) (rm2 l Z a0 hw [] (w80 + ((p1 &&& (3 : Int32)) - (1 : Int32))) (1 : Int32) h69 n0 Z72) (by decide) (W := 1) (argsL := [(.int (w80 + ((p1 &&& (3 : Int32)) - (1 : Int32)))), (.int (1 : Int32))]) (rest := [(.int (oChar (w80 + ((p1 &&& (3 : Int32)) - (1 : Int32))) (1 : Int32)))]) (by decide) (by decide) (by rw [hml]; rfl) (lenOf own_pd1 rfl) rfl rfl (Nat.le_of_eq rfl) (hb hby at_133) e84 (by decide) (by decide) ?_
      intro v85 T85 L85 hQ85 X85
      obtain ⟨rfl, N85q, e85⟩ := hQ85
      have N85 := Fr.app N84 N85q
      show OWp p e below s _ _ _ (T85.setTop (mkF m 136 #[.val (.int p1), .val (.int p2), .val (.int p3), .val (.ref b1), .val (.int (w80 + ((p1 &&& (3 : Int32)) - (1 : Int32)))), .val (.int (1 : Int32))] [(.int (oChar (w80 + ((p1 &&& (3 : Int32)) - (1 : Int32))) (1 : Int32))), (.int (oChar (w80 + ((p1 &&& (3 : Int32)) - (1 : Int32))) (1 : Int32)))]))
      refine own_st (F' := T85.setTop (mkF m 139 #[.val (.int p1), .val (.int p2), .val (.int p3), .val (.ref b1), .val (.int (w80 + ((p1 &&& (3 : Int32)) - (1 : Int32)))), .val (.int (1 : Int32))] [])) (fun t_ kk => XS.icmpNo X85.here hx rfl (hb hby at_136) rfl (teq (rfl : (oChar (w80 + ((p1 &&& (3 : Int32)) - (1 : Int32))) (1 : Int32)) = (oChar (w80 + ((p1 &&& (3 : Int32)) - (1 : Int32))) (1 : Int32)))).2 kk) ?_
      refine own_st (F' := T85.setTop (mkF m 140 #[.val (.int p1), .val (.int p2), .val (.int p3), .val (.ref b1), .val (.int (w80 + ((p1 &&& (3 : Int32)) - (1 : Int32)))), .val (.int (1 : Int32))] [(.int (1 : Int32))])) (fun t_ kk => XS.iconst X85.here hx rfl (hb hby at_139) kk) ?_
      refine own_st (F' := T85.setTop (mkF m 144 #[.val (.int p1), .val (.int p2), .val (.int p3), .val (.ref b1), .val (.int (w80 + ((p1 &&& (3 : Int32)) - (1 : Int32)))), .val (.int (1 : Int32))] [(.int (1 : Int32))])) (fun t_ kk => XS.goto X85.here hx rfl (pc0 := 140) (pc' := 144) rfl (hb hby at_140) (by decide) (by decide) kk) ?_
      refine own_fin X85 (some (.int (1 : Int32))) (fun h => by rw [Bd.returns] at h; cases h) Bd.notSynchronized (by decide) (by decide) (fun fs hr => retN X85 hx (t := .boolean) Bd.returns (by simp) (hb hby at_144) hr) ?_
      rw [e85]
      exact ⟨rfl, N85⟩
set_option maxRecDepth 65536 in
set_option maxHeartbeats 40000000 in
theorem comes_1 {Post : Tables → Env → Array Value → State → Outcome → State → Prop} (hpost : ∀ tb e args s v u, (limb_1_1.after args s (.returned v) u = true ∧ limb_1_2.after args s (.returned v) u = true ∧ True) → FrameEnd s (.returned v) u (Jvm.fieldLocs frame_1_writes args s ++ Jvm.arrayLocs frame_1_arrays args s ++ Jvm.staticLocs frame_1_statics s) 16 128 → Post tb e args s (.returned v) u) :
    ArmFor flags0 classFile x code maxLocals ret World_1 tables_1 room_1 Calls_1 rest_1 Pre_1 Post := by
  intro l hfl _ _ p e ha hc hk s m args below hf hA hF happ hP
  obtain ⟨hcalls, hrest, hpre⟩ := hP
  obtain ⟨-, -, -, hnamed, -, -, -, hat⟩ := (Spec.applies_iff hf).mp happ
  obtain ⟨hg, hn⟩ := and_e (Cond.before_iff.mp (show (Jvm.Cond.and given_1 narrow_1).before args s = true from hpre))
  obtain ⟨hcount, q0⟩ := and_e hg
  obtain ⟨k0, q1⟩ := and_e q0
  obtain ⟨k1, q2⟩ := and_e q1
  obtain ⟨w0, w1, w2, rfl⟩ : ∃ w0 w1 w2 : Value, args = #[w0, w1, w2] := by
    have hs : args.size = 3 := by simpa [Cond.value, given_1] using hcount
    obtain ⟨L⟩ := args
    match L, hs with
    | [w0, w1, w2], _ => exact ⟨w0, w1, w2, rfl⟩
  have hw := fun d (hd : d ∈ tables_1) => atoms_spec (ws := Jvm.Cond.code x code maxLocals ret :: tables_1) hat d (List.mem_cons_of_mem _ hd)
  obtain ⟨i0, ei0⟩ := is_v k0
  obtain rfl : w0 = (.int i0) := Option.some.inj ei0
  obtain ⟨i1, ei1⟩ := is_v k1
  obtain rfl : w1 = (.int i1) := Option.some.inj ei1
  obtain ⟨i2, ei2⟩ := is_v q2
  obtain rfl : w2 = (.int i2) := Option.some.inj ei2
  obtain ⟨n, o, h1, h2, h3, _, L, rfl, ⟨rfl, N⟩, hq⟩ := rm0 l s _ hw tables_1 i0 i1 i2 s.heap s.heap.size (Nat.le_refl _)  p e ha hc hk s m _ below hf ((Spec.applies_iff_loose hf).mp happ).1 ⟨rfl, State.Warmed39.refl s, rfl⟩ trivial
  refine ⟨n, _, h1, h2, h3, hpost _ _ _ _ _ _ ⟨Cond.after_iff.mpr rfl, Cond.after_iff.mpr (eq_i res_at (Term.int_eval (1)) rfl), trivial⟩ ⟨hq.1, hq.2.1, (hq.2.2.sift fun y hy => Or.inr (N y hy)).mono (by decide) (by decide)⟩⟩
theorem main_1_1 : Claimed_1_1 := comes_1 fun _ _ _ _ _ _ h hF => ⟨h.1, hF⟩
theorem main_1_2 : Claimed_1_2 := comes_1 fun _ _ _ _ _ _ h hF => ⟨h.2.1, hF⟩
end Jvm.Pilot.@@N@@
namespace Jvm.Pilot.@@N@@
open Jvm Jvm.ClassFile Sem Op Lib Jvm.Free Jvm.Stand Jvm.Pilot.@@N@@.Jvm.D
/-! MADE BY PROGRAM (witnessworld.py) out of the Statement's table words and the real class files: 9 classes; the members and pool entries that the words name. The judged class is class 1, her method 3. -/
namespace start1
open Jvm.ClassFile
def u (s : String) : CpInfo := .utf8 (stringToUtf16 s)
/-- a pool by its gaps: so many unusable entries, then the entry; so many at the end -/
def gap : Nat → List CpInfo → List CpInfo
  | 0, r => r
  | n + 1, r => .unusable :: gap n r
def poolList (es : List (Nat × CpInfo)) (last : Nat) : List CpInfo := es.foldr (fun e r => gap e.1 (e.2 :: r)) (gap last [])
def pool (es : List (Nat × CpInfo)) (last : Nat) : Array CpInfo := ⟨poolList es last⟩
def fileOf (pool : Array CpInfo) (this : Nat) (attrs : Array Attribute := #[]) (ms : Array MethodInfo := #[]) (fl : Nat := 33) (sup : Nat := 0) (ifs : Array Nat := #[]) (fds : Array FieldInfo := #[]) : ClassFile where
  minorVersion := 0
  majorVersion := 65
  constantPool := pool
  accessFlags := fl
  thisClass := this
  superClass := sup
  interfaces := ifs
  fields := fds
  methods := ms
  attributes := attrs
def plain (name : String) (sup : Option ClassId) : Class where
  name := name
  kind := .ordinary
  loader := none
  accessFlags := 33
  super := sup
  interfaces := #[]
  cf := none
  fields := #[]
  methods := #[]
  instanceTypes := #[]
  staticTypes := #[]
  resolved := #[]
  callSites := []
  init := .initialized
  statics := none
  mirror := none

def pool0 : Array CpInfo := pool [(5, u "<init>"), (0, u "()V"), (1, .class_ 10), (1, u "java/lang/Object")] 113

def k0m0 : Method := { name := "<init>", desc := "()V", sig := { parameters := [], returnType := none }, accessFlags := 1, code := none }
/-- java/lang/Object -/
def k0 : Class := { plain "java/lang/Object" none with
  accessFlags := 33
  interfaces := #[]
  cf := some (fileOf pool0 8 #[] #[{ accessFlags := 1, nameIndex := 5, descriptorIndex := 6, attributes := #[] }] 33 0 #[] #[])
  fields := #[]
  methods := #[k0m0]
  instanceTypes := #[]
  staticTypes := #[]
  resolved := Array.replicate 124 none
  statics := none }

def pool1 : Array CpInfo := pool [(2, .class_ 4), (1, u "java/lang/Object"), (0, u "<init>"), (0, u "()V"), (0, .integer 55295), (0, .methodref 9 10), (0, .class_ 11), (0, .nameAndType 12 13), (0, u "com/example/ascribe/ascribe/XmlNamesIsCharPinLaw"), (0, u "in"), (0, u "(III)Z"), (0, .integer 57344), (0, .integer 65533), (0, .integer 65536), (0, .integer 1114111), (2, .integer 2147483648), (0, .integer 2147483647), (0, .methodref 23 24), (0, .class_ 25), (0, .nameAndType 26 27), (0, u "com/example/ascribe/ascribe/XmlNames"), (0, u "isChar"), (0, u "(IZ)Z"), (0, .methodref 9 29), (0, .nameAndType 30 27), (0, u "expected"), (3, u "law")] 4

def k1m0 : Method := { name := "<init>", desc := "()V", sig := { parameters := [], returnType := none }, accessFlags := 2, code := none }
def k1c1 : Code := { maxStack := 2, maxLocals := 3, code := method_2_code, exceptionTable := #[], attributes := #[] }
def k1m1 : Method := { name := "in", desc := "(III)Z", sig := { parameters := [.int, .int, .int], returnType := some .boolean }, accessFlags := 10, code := some k1c1 }
def k1c2 : Code := { maxStack := 3, maxLocals := 4, code := method_3_code, exceptionTable := #[], attributes := #[] }
def k1m2 : Method := { name := "expected", desc := "(IZ)Z", sig := { parameters := [.int, .boolean], returnType := some .boolean }, accessFlags := 10, code := some k1c2 }
def k1c3 : Code := { maxStack := 4, maxLocals := 6, code := code, exceptionTable := #[], attributes := #[] }
def k1m3 : Method := { name := "law", desc := "(III)Z", sig := { parameters := [.int, .int, .int], returnType := some .boolean }, accessFlags := 9, code := some k1c3 }
/-- com/example/ascribe/ascribe/XmlNamesIsCharPinLaw -/
def k1 : Class := { plain "com/example/ascribe/ascribe/XmlNamesIsCharPinLaw" (some 0) with
  accessFlags := 49
  interfaces := #[]
  cf := some (fileOf pool1 9 #[] #[{ accessFlags := 2, nameIndex := 5, descriptorIndex := 6, attributes := #[] }, { accessFlags := 10, nameIndex := 12, descriptorIndex := 13, attributes := #[] }, { accessFlags := 10, nameIndex := 30, descriptorIndex := 27, attributes := #[] }, { accessFlags := 9, nameIndex := 34, descriptorIndex := 13, attributes := #[] }] 49 2 #[] #[])
  fields := #[]
  methods := #[k1m0, k1m1, k1m2, k1m3]
  instanceTypes := #[]
  staticTypes := #[]
  resolved := Array.replicate 39 none
  statics := none }

def pool2 : Array CpInfo := pool [(2, .class_ 4), (1, u "java/lang/Object"), (0, u "<init>"), (0, u "()V"), (1, .class_ 10), (1, u "com/example/ascribe/ascribe/XmlNames"), (84, u "NAME_START_CHARS"), (0, u "[I"), (7, u "OTHER_NAME_CHARS"), (8, .integer 55295), (0, .integer 57344), (0, .integer 65533), (0, .integer 65536), (0, .integer 1114111), (29, u "isChar"), (0, u "(IZ)Z")] 20

def k2m0 : Method := { name := "<init>", desc := "()V", sig := { parameters := [], returnType := none }, accessFlags := 2, code := none }
def k2c1 : Code := { maxStack := 2, maxLocals := 3, code := prog_245_method_15_code, exceptionTable := #[], attributes := #[] }
def k2m1 : Method := { name := "isChar", desc := "(IZ)Z", sig := { parameters := [.int, .boolean], returnType := some .boolean }, accessFlags := 8, code := some k2c1 }
/-- com/example/ascribe/ascribe/XmlNames -/
def k2 : Class := { plain "com/example/ascribe/ascribe/XmlNames" (some 0) with
  accessFlags := 48
  interfaces := #[]
  cf := some (fileOf pool2 8 #[] #[{ accessFlags := 2, nameIndex := 5, descriptorIndex := 6, attributes := #[] }, { accessFlags := 8, nameIndex := 147, descriptorIndex := 148, attributes := #[] }] 48 2 #[] #[{ accessFlags := 26, nameIndex := 95, descriptorIndex := 96, attributes := #[] }, { accessFlags := 26, nameIndex := 104, descriptorIndex := 96, attributes := #[] }])
  fields := #[{ name := "NAME_START_CHARS", type := (.array .int), accessFlags := 26, slot := 0, constantValue := 0 }, { name := "OTHER_NAME_CHARS", type := (.array .int), accessFlags := 26, slot := 1, constantValue := 0 }]
  methods := #[k2m0, k2m1]
  instanceTypes := #[]
  staticTypes := #[(.array .int), (.array .int)]
  resolved := Array.replicate 169 none
  statics := none }

def pool3 : Array CpInfo := pool [(1, u "java/lang/Cloneable"), (0, .class_ 1), (0, u "java/lang/Object"), (0, .class_ 3)] 3

/-- java/lang/Cloneable -/
def k3 : Class := { plain "java/lang/Cloneable" (some 0) with
  accessFlags := 1537
  interfaces := #[]
  cf := some (fileOf pool3 2 #[] #[] 1537 4 #[] #[])
  fields := #[]
  methods := #[]
  instanceTypes := #[]
  staticTypes := #[]
  resolved := Array.replicate 8 none
  statics := none }

def pool4 : Array CpInfo := pool [(1, u "java/io/Serializable"), (0, .class_ 1), (0, u "java/lang/Object"), (0, .class_ 3)] 3

/-- java/io/Serializable -/
def k4 : Class := { plain "java/io/Serializable" (some 0) with
  accessFlags := 1537
  interfaces := #[]
  cf := some (fileOf pool4 2 #[] #[] 1537 4 #[] #[])
  fields := #[]
  methods := #[]
  instanceTypes := #[]
  staticTypes := #[]
  resolved := Array.replicate 8 none
  statics := none }

/-- the primitive byte -/
def k5 : Class := { plain "byte" none with kind := .primitive 'B', accessFlags := 0x411 }
/-- [B -/
def k6 : Class := { plain "[B" (some 0) with kind := .array 5 .byte, interfaces := #[3, 4], accessFlags := 1041 }

/-- the primitive int -/
def k7 : Class := { plain "int" none with kind := .primitive 'I', accessFlags := 0x411 }
/-- [I -/
def k8 : Class := { plain "[I" (some 0) with kind := .array 7 .int, interfaces := #[3, 4], accessFlags := 1041 }

def heap : Heap := #[]
def classes : Array Class := #[k0, k1, k2, k3, k4, k5, k6, k7, k8]
def interned : List (Array UInt16 × Addr) := []
def slotsUsed : Nat := 0
def theMethod : MethodId := ⟨1, 3⟩
def args0 : Array Value := #[.int 65, .int 0, .int 1]
def aboutOver (below : List Frame) : State where
  vm := { classes := classes, interned := interned.toArray }
  heap := heap
  slotsUsed := slotsUsed
  threads := #[{ frames := .invoking theMethod args0 :: below }]
def below0 : List Frame := [.native { method := ⟨0, 0⟩, args := #[] }]
def about1 : State := aboutOver below0
def p0 : Program := .bare "" "" ""
def e0 : Env := launch0.env 0 0 0
theorem w_frames : about1.frames = Frame.invoking theMethod args0 :: below0 := rfl
set_option maxRecDepth 65536 in
theorem w_args : argsFit about1.vm theMethod args0 = true := by decide +kernel
set_option maxRecDepth 65536 in
theorem w_heap : heapFits about1 = true := by decide +kernel
set_option maxRecDepth 65536 in
theorem w_runnable : about1.curStatus? = some .runnable := by decide +kernel
set_option maxRecDepth 65536 in
theorem w_alone : about1.alone = true := by decide +kernel
set_option maxRecDepth 65536 in
theorem w_named : about1.methodNamed? x = some theMethod := by decide +kernel
set_option maxRecDepth 65536 in
theorem w_hears : about1.hears theMethod below0 = true := by decide +kernel
set_option maxRecDepth 65536 in
theorem w_ripe : about1.ripe theMethod args0 below0 = true := by decide +kernel
theorem w_running : about1.status = .running := rfl
set_option maxRecDepth 65536 in
theorem w_room : about1.hasRoom e0.platform room_1 = true :=
  launch0.hasRoom_least _ room_1 (by decide +kernel) (by decide +kernel) (by decide +kernel) (by decide +kernel) (by decide +kernel) (by decide +kernel)
theorem allAtoms_all (ts : List Jvm.Cond) (a : Array Jvm.Value) (st : Jvm.State) : (allAtoms ts).before a st = ts.all (fun c => c.before a st) := by
  induction ts with
  | nil => rfl
  | cons c t ih =>
    show (Jvm.Cond.and c (allAtoms t)).before a st = _
    rw [Jvm.Cond.before_and, ih, List.all_cons]
def words1 : List Jvm.Cond := Jvm.Cond.code x code maxLocals ret :: tables_1
/-- a 'code' word, met by the world's own term for the bytes: nothing is compared byte by byte -/
theorem code_word {y : MethodName} {bytes : ByteArray} {mx : Nat} {rt : Option FieldType} {a : Array Value} {s : State} {m : MethodId} {meth : Method} {c : Code} (h1 : s.methodNamed? y = some m) (h2 : s.vm.method? m = some meth) (h3 : meth.code = some c) (h4 : c.code = bytes)
    (h5 : (c.maxLocals == mx && c.exceptionTable.isEmpty && decide (c.maxStack ≤ mostOperands) && decide (meth.sig.returnType = rt) && !meth.locks && decide (parseMethodDescriptor y.desc = some meth.sig)) = true) : (Jvm.Cond.code y bytes mx rt).before a s = true := by
  simp only [Bool.and_eq_true, beq_iff_eq, Bool.not_eq_true', decide_eq_true_eq] at h5
  obtain ⟨⟨⟨⟨⟨g1, g2⟩, g3⟩, g4⟩, g5⟩, g6⟩ := h5
  simp [Cond.before, Cond.holds, Cond.value, h1, h2, h3, h4, g1, g2, g3, g4, g5, g6]
def isCode : Jvm.Cond → Bool
  | .code _ _ _ _ => true
  | _ => false
theorem all_split {L : List Jvm.Cond} {P : Jvm.Cond → Bool} (h1 : L.all (fun c => isCode c || P c) = true) (h2 : ∀ c ∈ L.filter isCode, P c = true) : L.all P = true := by
  refine List.all_eq_true.mpr fun c hc => ?_
  have h := List.all_eq_true.mp h1 c hc
  rcases Bool.eq_false_or_eq_true (isCode c) with hi | hi
  · exact h2 c (List.mem_filter.mpr ⟨hc, hi⟩)
  · simpa [hi] using h
set_option maxRecDepth 65536 in
theorem w_c0 : (Jvm.Cond.code x code maxLocals ret).before args0 about1 = true := code_word (m := ⟨1, 3⟩) (meth := k1m3) (c := k1c3) (by decide +kernel) rfl rfl rfl (by decide +kernel)
set_option maxRecDepth 65536 in
theorem w_c1 : (Jvm.Cond.code ({ cls := "com/example/ascribe/ascribe/XmlNames", name := "isChar", desc := "(IZ)Z" } : Jvm.MethodName) prog_245_method_15_code (3 : Nat) (Option.some Jvm.ClassFile.FieldType.boolean)).before args0 about1 = true := code_word (m := ⟨2, 1⟩) (meth := k2m1) (c := k2c1) (by decide +kernel) rfl rfl rfl (by decide +kernel)
set_option maxRecDepth 65536 in
theorem w_c2 : (Jvm.Cond.code ({ cls := "com/example/ascribe/ascribe/XmlNamesIsCharPinLaw", name := "expected", desc := "(IZ)Z" } : Jvm.MethodName) method_3_code (4 : Nat) (Option.some Jvm.ClassFile.FieldType.boolean)).before args0 about1 = true := code_word (m := ⟨1, 2⟩) (meth := k1m2) (c := k1c2) (by decide +kernel) rfl rfl rfl (by decide +kernel)
set_option maxRecDepth 65536 in
theorem w_c3 : (Jvm.Cond.code ({ cls := "com/example/ascribe/ascribe/XmlNamesIsCharPinLaw", name := "in", desc := "(III)Z" } : Jvm.MethodName) method_2_code (3 : Nat) (Option.some Jvm.ClassFile.FieldType.boolean)).before args0 about1 = true := code_word (m := ⟨1, 1⟩) (meth := k1m1) (c := k1c1) (by decide +kernel) rfl rfl rfl (by decide +kernel)
def codes1 : List Jvm.Cond := [Jvm.Cond.code x code maxLocals ret, Jvm.Cond.code ({ cls := "com/example/ascribe/ascribe/XmlNames", name := "isChar", desc := "(IZ)Z" } : Jvm.MethodName) prog_245_method_15_code (3 : Nat) (Option.some Jvm.ClassFile.FieldType.boolean), Jvm.Cond.code ({ cls := "com/example/ascribe/ascribe/XmlNamesIsCharPinLaw", name := "expected", desc := "(IZ)Z" } : Jvm.MethodName) method_3_code (4 : Nat) (Option.some Jvm.ClassFile.FieldType.boolean), Jvm.Cond.code ({ cls := "com/example/ascribe/ascribe/XmlNamesIsCharPinLaw", name := "in", desc := "(III)Z" } : Jvm.MethodName) method_2_code (3 : Nat) (Option.some Jvm.ClassFile.FieldType.boolean)]
set_option maxRecDepth 65536 in
theorem codes_eq : words1.filter isCode = codes1 := rfl
theorem w_codes : ∀ c ∈ words1.filter isCode, c.before args0 about1 = true := by
  rw [codes_eq]
  intro c hc
  simp only [codes1, List.mem_cons, List.not_mem_nil, or_false] at hc
  rcases hc with rfl | rfl | rfl | rfl
  · exact w_c0
  · exact w_c1
  · exact w_c2
  · exact w_c3
set_option maxRecDepth 65536 in
theorem w_t1 : (words1.take 24).all (fun c => isCode c || c.before args0 about1) = true := by decide +kernel
set_option maxRecDepth 65536 in
theorem w_t2 : (words1.drop 24).all (fun c => isCode c || c.before args0 about1) = true := by decide +kernel
theorem w_tables : (allAtoms (Jvm.Cond.code x code maxLocals ret :: tables_1)).before args0 about1 = true := by
  rw [allAtoms_all]
  show words1.all (fun c => c.before args0 about1) = true
  refine all_split ?_ w_codes
  rw [← List.take_append_drop 24 words1, List.all_append, w_t1, w_t2]
  rfl
set_option maxRecDepth 65536 in
theorem w_case : (Jvm.Cond.and given_1 narrow_1).before args0 about1 = true := by decide +kernel
theorem w_applies : (headSpec (Jvm.Cond.code x code maxLocals ret :: tables_1) room_1).applies x e0.platform about1 = true :=
  (Spec.applies_iff w_frames).mpr ⟨w_running, w_runnable, w_alone, w_named, w_hears, w_ripe, w_room, w_tables⟩
theorem atStart : AtStart classFile x code maxLocals ret World_1 tables_1 room_1 Calls_1 rest_1 Pre_1 launch0 p0 e0 about1 theMethod args0 below0 :=
  ⟨lists_1, trivial, launch0.admits_env _ _ _, launch0.least_env, fairChoices_fair.cas, fairChoices_fair.clock, w_frames, w_args, w_heap, w_applies, trivial, trivial, w_case⟩
end start1
theorem witness_1 : WitnessClaimed_1 := ⟨start1.p0, start1.e0, start1.about1, start1.theMethod, start1.args0, start1.below0, start1.atStart⟩
end Jvm.Pilot.@@N@@
